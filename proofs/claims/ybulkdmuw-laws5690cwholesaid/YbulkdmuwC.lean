import Derived.Test.YbulkdmuwRows
import Derived.Test.YbulkdmuwShelf
import Derived.WalkKit
import Derived.ProofKit
import Derived.OpenShut
import Derived.WalkSpells
import Derived.Deep.QuietTactic
import Derived.BigQuiet
import Derived.RegionTactic
import Derived.Laws.Bits64
import Derived.Laws.Bits64b
import Derived.Shelf.Bits.Mul64
namespace Go.Proofs.Ybulkdmuw
open Go.ChangeShapes Go.WideShapes Go.ChangeAt Go.RowKit
set_option linter.unusedVariables false

/-- The 128-bit product, folded: high word XOR low word. -/
def foldN (x y : Nat) : Nat := (x * y / 18446744073709551616) ^^^ (x * y % 18446744073709551616)

theorem fold_any (x y : Nat) (hx : x < 18446744073709551616) (hy : y < 18446744073709551616) (w : World) :
    Calls Yba.prog 14 #[.int .u64 (x : Int), .int .u64 (y : Int)] w fun e w' => e = .returned (.int .u64 ((foldN x y : Nat) : Int)) ∧ w' = w := by
  have C : Hid (∀ w, Calls Yba.prog 15 #[.int .u64 x, .int .u64 y] w fun e w' => e = .returned (.tuple #[.int .u64 ((x * y / 18446744073709551616 : Nat) : Int), .int .u64 ((x * y % 18446744073709551616 : Nat) : Int)]) ∧ w' = w) := fun w => Yba.bits_Mul64 x y hx hy w
  have hb : x * y / 18446744073709551616 < 18446744073709551616 := by
    apply Nat.div_lt_of_lt_mul
    exact Nat.mul_lt_mul'' hx hy
  have hX : Hid (bits .xor .u64 ((x * y / 18446744073709551616 : Nat) : Int) ((x * y % 18446744073709551616 : Nat) : Int) = ((foldN x y : Nat) : Int)) := bits_xor_u64_nat _ _ hb (Nat.mod_lt _ (by decide))
  generalize (x * y / 18446744073709551616 : Nat) = A at *
  generalize (x * y % 18446744073709551616 : Nat) = B at *
  generalize (foldN x y) = F at *
  have hX' := hX.out
  go_enter Yba.func14, Yba.ntmps14
  go_wp2_with fail
  refine (C.out _).mono ?_
  rintro e w1 ⟨rfl, rfl⟩
  go_wp2_with fail
  go_ret
  exact ⟨rfl, rfl⟩

/-! ### The school method by 32-bit limbs, as the walk writes it -/
theorem mulC (a : Nat) : (a : Int) * 4294967296 = ((a * 4294967296 : Nat) : Int) := by omega
theorem or_add (m r : Nat) (hr : r < 4294967296) : (m * 4294967296) ||| r = m * 4294967296 + r := by
  have := Nat.shiftLeft_add_eq_or_of_lt (i := 32) (b := r) (by omega) m
  rw [Nat.shiftLeft_eq] at this
  exact this.symm

theorem limbs (x y : Nat) (hx : x < 18446744073709551616) (hy : y < 18446744073709551616) :
    bits .xor .u64 (IntKind.u64.wrap (IntKind.u64.wrap (IntKind.u64.wrap (IntKind.u64.wrap ((x : Int) / 4294967296 * ((y : Int) / 4294967296)) + IntKind.u64.wrap (bits .and .u64 (x : Int) 4294967295 * ((y : Int) / 4294967296)) / 4294967296) + IntKind.u64.wrap ((x : Int) / 4294967296 * bits .and .u64 (y : Int) 4294967295) / 4294967296) + IntKind.u64.wrap (IntKind.u64.wrap (IntKind.u64.wrap (bits .and .u64 (x : Int) 4294967295 * bits .and .u64 (y : Int) 4294967295) / 4294967296 + bits .and .u64 (IntKind.u64.wrap (bits .and .u64 (x : Int) 4294967295 * ((y : Int) / 4294967296))) 4294967295) + bits .and .u64 (IntKind.u64.wrap ((x : Int) / 4294967296 * bits .and .u64 (y : Int) 4294967295)) 4294967295) / 4294967296)) (bits .or .u64 (IntKind.u64.wrap (IntKind.u64.wrap (IntKind.u64.wrap (IntKind.u64.wrap (bits .and .u64 (x : Int) 4294967295 * bits .and .u64 (y : Int) 4294967295) / 4294967296 + bits .and .u64 (IntKind.u64.wrap (bits .and .u64 (x : Int) 4294967295 * ((y : Int) / 4294967296))) 4294967295) + bits .and .u64 (IntKind.u64.wrap ((x : Int) / 4294967296 * bits .and .u64 (y : Int) 4294967295)) 4294967295) * 4294967296)) (bits .and .u64 (IntKind.u64.wrap (bits .and .u64 (x : Int) 4294967295 * bits .and .u64 (y : Int) 4294967295)) 4294967295)) = ((foldN x y : Nat) : Int) := by
  have bA := Lib.half_mul_le (a := x % 4294967296) (b := y % 4294967296) (by omega) (by omega)
  have bB := Lib.half_mul_le (a := x % 4294967296) (b := y / 4294967296) (by omega) (by omega)
  have bC := Lib.half_mul_le (a := x / 4294967296) (b := y % 4294967296) (by omega) (by omega)
  have bD := Lib.half_mul_le (a := x / 4294967296) (b := y / 4294967296) (by omega) (by omega)
  have e : x * y = (x / 4294967296) * (y / 4294967296) * (4294967296 * 4294967296) + ((x / 4294967296) * (y % 4294967296) + (x % 4294967296) * (y / 4294967296)) * 4294967296 + (x % 4294967296) * (y % 4294967296) := by
    rw [← Lib.split_mul, Nat.div_add_mod' x 4294967296, Nat.div_add_mod' y 4294967296]
  simp only [Mul64.maskN x hx, Mul64.maskN y hy, Mul64.divN, Mul64.mulN]
  unfold foldN
  rw [e]
  generalize (x % 4294967296) * (y % 4294967296) = a at *
  generalize (x % 4294967296) * (y / 4294967296) = b at *
  generalize (x / 4294967296) * (y % 4294967296) = c at *
  generalize (x / 4294967296) * (y / 4294967296) = d at *
  clear e
  have ha : a < 18446744073709551616 := by omega
  have hb : b < 18446744073709551616 := by omega
  have hc : c < 18446744073709551616 := by omega
  have hd : d < 18446744073709551616 := by omega
  simp only [Mul64.wrapN _ ha, Mul64.wrapN _ hb, Mul64.wrapN _ hc, Mul64.wrapN _ hd, Mul64.maskN _ ha, Mul64.maskN _ hb, Mul64.maskN _ hc, Mul64.divN, Mul64.addN]
  have h1 : a / 4294967296 + b % 4294967296 < 18446744073709551616 := by omega
  rw [Mul64.wrapN _ h1]
  simp only [Mul64.addN]
  have h2 : a / 4294967296 + b % 4294967296 + c % 4294967296 < 18446744073709551616 := by omega
  rw [Mul64.wrapN _ h2]
  have h3 : d + b / 4294967296 < 18446744073709551616 := by omega
  rw [Mul64.wrapN _ h3]
  simp only [Mul64.addN, Mul64.divN]
  have h4 : d + b / 4294967296 + c / 4294967296 < 18446744073709551616 := by omega
  rw [Mul64.wrapN _ h4]
  simp only [Mul64.addN]
  have h5 : d + b / 4294967296 + c / 4294967296 + (a / 4294967296 + b % 4294967296 + c % 4294967296) / 4294967296 < 18446744073709551616 := by omega
  rw [Mul64.wrapN _ h5, mulC, Mul64.wrapM]
  have h6 : (a / 4294967296 + b % 4294967296 + c % 4294967296) * 4294967296 % 18446744073709551616 = ((a / 4294967296 + b % 4294967296 + c % 4294967296) % 4294967296) * 4294967296 := by omega
  rw [h6, bits_or_u64_nat _ _ (by omega) (by omega), or_add _ _ (by omega), bits_xor_u64_nat _ _ h5 (by omega)]
  congr 2 <;> omega

theorem zfold_any (x y : Nat) (hx : x < 18446744073709551616) (hy : y < 18446744073709551616) (w : World) :
    Calls Yba.prog 8 #[.int .u64 (x : Int), .int .u64 (y : Int)] w fun e w' => e = .returned (.int .u64 ((foldN x y : Nat) : Int)) ∧ w' = w := by
  have H : Hid _ := limbs x y hx hy
  go_enter Yba.func8, Yba.ntmps8
  go_wp2
  rw [H.out]
  go_ret
  exact ⟨rfl, rfl⟩
end Go.Proofs.Ybulkdmuw
