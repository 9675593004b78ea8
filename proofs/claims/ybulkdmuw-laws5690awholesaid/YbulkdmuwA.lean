import Derived.Test.YbulkdmuwRows
import Derived.Test.YbulkdmuwShelf
import Derived.WalkKit
import Derived.ProofKit
import Derived.OpenShut
import Derived.ShutString
import Derived.WalkSpells
import Derived.Lib.BitFns
import Derived.Laws.Bits64b
namespace Go.Proofs.Ybulkdmuw
open Go.ChangeShapes Go.WideShapes Go.ChangeAt Go.RowKit
set_option linter.unusedVariables false

/-! ### The plain law -/
/-- How many bytes n takes as an unsigned varint. -/
def vlen (n : Nat) : Nat := (Lib.bitLen (n / 2) + 7) / 7

theorem vlen_small (n : Nat) (h : n < 128) : vlen n = 1 := by
  have := Lib.bitLen_le (n / 2) 6 (by omega) (by omega)
  unfold vlen; omega
theorem vlen_step (n : Nat) (h : 128 ≤ n) (hn : n < 2 ^ 64) : vlen n = vlen (n / 128) + 1 := by
  have e1 := Lib.bitLen_half n (by omega) hn
  have e2 := Lib.bitLen_shift 7 n (by omega) hn
  have e3 := Lib.bitLen_half (n / 128) (by omega) (by omega)
  have e4 : n / 2 ^ 7 = n / 128 := rfl
  rw [e4] at e2
  unfold vlen; omega
theorem vlen_le (n : Nat) (hn : n < 2 ^ 64) : vlen n ≤ 10 := by
  have := Lib.bitLen_le (n / 2) 63 (by omega) (by omega)
  unfold vlen; omega
theorem vlen_pos (n : Nat) : 1 ≤ vlen n := by unfold vlen; omega
theorem or_one (n : Nat) : (n ||| 1) / 2 = n / 2 := by
  apply Nat.eq_of_testBit_eq
  intro i
  rw [show (2 : Nat) = 2 ^ 1 from rfl, ← Nat.shiftRight_eq_div_pow, ← Nat.shiftRight_eq_div_pow, Nat.testBit_shiftRight, Nat.testBit_shiftRight, Nat.testBit_or]
  have : Nat.testBit 1 (1 + i) = false := by
    rw [Nat.testBit_eq_decide_div_mod_eq]
    have : 1 / 2 ^ (1 + i) = 0 := Nat.div_eq_of_lt (by rw [Nat.pow_add]; have := Nat.two_pow_pos i; omega)
    rw [this]; rfl
  rw [this, Bool.or_false]
theorem or_one_bd (n : Nat) (hn : n < 2 ^ 64) : (n ||| 1) < 2 ^ 64 := Nat.or_lt_two_pow hn (by omega)
theorem or_one_ne (n : Nat) : (n ||| 1) ≠ 0 := by
  have := Nat.right_le_or (n := n) (m := 1)
  omega
theorem len_is (n : Nat) (hn : n < 2 ^ 64) : (Lib.bitLen (n ||| 1) + 6) / 7 = vlen n := by
  rw [Lib.bitLen_half (n ||| 1) (or_one_ne n) (or_one_bd n hn), or_one]
  unfold vlen; omega

/-! ### zzs5690avarlen -/
set_option maxRecDepth 100000 in
theorem varlen_any (n : Nat) (hn : n ≤ 1125899906842624) (w : World) :
    Calls Yba.prog 5 #[.int .u64 (n : Int)] w fun e w' => e = .returned (.int .i64 (vlen n : Int)) ∧ w' = w := by
  have hv := vlen_le n (by omega)
  go_enter Yba.func5, Yba.ntmps5
  go_wp2
  go_loop [0, 3] (fun a c => ∃ m k : Nat, m ≤ n ∧ a = .int .u64 (m : Int) ∧ c = .int .i64 (k : Int) ∧ k + vlen m = 1 + vlen n) (fun a _ => (intOf a).toNat)
  case atStart => exact ⟨n, 1, Nat.le_refl _, rfl, rfl, rfl⟩
  case round =>
    obtain ⟨m, k, hm, rfl, rfl, hk⟩ := hrel
    have HK : Hid (k + vlen m = 1 + vlen n) := hk
    have hp := vlen_pos m
    have hkb : k ≤ 11 := by omega
    clear hk
    by_cases h : 128 ≤ m
    · go_wp2
      go_round
      case rel =>
        refine ⟨m / 128, k + 1, by omega, by go_num, by go_num, ?_⟩
        have := vlen_step m h (by omega)
        have := HK.out
        omega
      case measure => simp [intOf]; omega
    · go_wp2
      go_ret
      have := vlen_small m (by omega)
      have := HK.out
      have e : k = vlen n := by omega
      exact ⟨by rw [e]; rfl, rfl⟩

/-! ### uvarintLen, nameSize -/
theorem or_run (n : Nat) (hn : n ≤ 1125899906842624) : bits .or .u64 (n : Int) 1 = ((n ||| 1 : Nat) : Int) := by
  have := bits_or_u64_nat n 1 (by omega) (by omega)
  exact this
theorem len64_at (n : Nat) (hn : n ≤ 1125899906842624) (w : World) :
    Calls Yba.prog 13 #[.int .u64 ((n ||| 1 : Nat) : Int)] w fun e w' => e = .returned (.int .i64 (Lib.bitLen (n ||| 1) : Int)) ∧ w' = w := by
  have hb := or_one_bd n (by omega)
  have := Yba.bits_Len64 ((n ||| 1 : Nat) : Int) w (by omega) (by omega)
  rw [Int.toNat_natCast] at this
  exact this
set_option maxRecDepth 100000 in
theorem uvarint_any (n : Nat) (hn : n ≤ 1125899906842624) (w : World) :
    Calls Yba.prog 10 #[.int .i64 (n : Int)] w fun e w' => e = .returned (.int .i64 (vlen n : Int)) ∧ w' = w := by
  have hor := or_run n hn
  have C : Hid (∀ w, Calls Yba.prog 13 #[.int .u64 ((n ||| 1 : Nat) : Int)] w fun e w' => e = .returned (.int .i64 (Lib.bitLen (n ||| 1) : Int)) ∧ w' = w) := fun w => len64_at n hn w
  have hl := Lib.bitLen_le (n ||| 1) 64 (by omega) (or_one_bd n (by omega))
  have HE : Hid ((Lib.bitLen (n ||| 1) + 6) / 7 = vlen n) := len_is n (by omega)
  generalize Lib.bitLen (n ||| 1) = q at *
  generalize hN : (n ||| 1 : Nat) = N at *
  clear hN
  go_enter Yba.func10, Yba.ntmps10
  go_wp2_with fail
  refine (C.out _).mono ?_
  rintro e w1 ⟨rfl, rfl⟩
  go_wp2_with fail
  go_ret
  refine ⟨?_, rfl⟩
  rw [← HE.out]
  exact congrArg (fun z => Ending.returned (.int .i64 z)) (by omega)
set_option maxRecDepth 100000 in
theorem name_any (s : ByteArray) (b : Bool) (hn : s.size ≤ 1125899906842624) (w : World) :
    Calls Yba.prog 6 #[.string s, .bool b] w fun e w' => e = .returned (.int .i64 ((vlen s.size : Int) + s.size + (if b then 16 else 0))) ∧ w' = w := by
  have C : Hid (∀ w, Calls Yba.prog 10 #[.int .i64 (s.size : Int)] w fun e w' => e = .returned (.int .i64 (vlen s.size : Int)) ∧ w' = w) := fun w => uvarint_any s.size hn w
  have hv := vlen_le s.size (by omega)
  generalize vlen s.size = v at *
  cases b
  all_goals
    go_enter Yba.func6, Yba.ntmps6
    go_wp2_with fail
    refine (C.out _).mono ?_
    rintro e w1 ⟨rfl, rfl⟩
    go_wp2_with fail
    go_ret
    exact ⟨congrArg (fun z => Ending.returned (.int .i64 z)) (by simp), rfl⟩
/-! ### The law -/
set_option maxRecDepth 100000 in
theorem lawA (s : ByteArray) (b : Bool) (w : World) :
    Calls Yba.prog 3 #[.string s, .bool b] w fun e w' => e = .returned (.bool true) ∧ w' = w := by
  by_cases hn : s.size ≤ 1125899906842624
  case neg =>
    have hn' : (1125899906842624 : Int) < (s.size : Int) := by omega
    clear hn
    go_enter Yba.func3, Yba.ntmps3
    go_wp2_with fail
    go_ret
    exact ⟨rfl, rfl⟩
  have C : Hid (∀ w, Calls Yba.prog 5 #[.int .u64 (s.size : Int)] w fun e w' => e = .returned (.int .i64 (vlen s.size : Int)) ∧ w' = w) := fun w => varlen_any s.size hn w
  have D : Hid (∀ w, Calls Yba.prog 6 #[.string s, .bool b] w fun e w' => e = .returned (.int .i64 ((vlen s.size : Int) + s.size + (if b then 16 else 0))) ∧ w' = w) := fun w => name_any s b hn w
  have hv := vlen_le s.size (by omega)
  generalize vlen s.size = v at *
  cases b
  all_goals
    go_enter Yba.func3, Yba.ntmps3
    go_wp2_with fail
    refine (C.out _).mono ?_
    rintro e w1 ⟨rfl, rfl⟩
    go_wp2_with fail
    refine (D.out _).mono ?_
    rintro e w1 ⟨rfl, rfl⟩
    go_wp2_with fail
    go_ret
    exact ⟨congrArg (fun z => Ending.returned (.bool z)) (by simp), rfl⟩
end Go.Proofs.Ybulkdmuw
