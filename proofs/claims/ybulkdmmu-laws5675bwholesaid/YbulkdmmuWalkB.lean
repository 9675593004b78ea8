import Derived.Test.YbulkdmmuWalkA
namespace Go.Proofs.Ybulkdmmu
open Go.ChangeShapes Go.WideShapes Go.ChangeAt Go.RowKit

/-! ### The model: its ways -/
theorem model_size (s : ByteArray) (hs : ¬ (s.size : Int) = 6) (h : Int) (w : World) :
    Calls Yba.prog 5 #[.string s, .int .i64 h] w fun e w' => e = .returned (.tuple #[.int .i64 0, .int .i64 1]) ∧ Grown w w' := by
  go_enter Yba.func5, Yba.ntmps5
  go_wp2
  go_ret2
  exact ⟨rfl, Grown.refl _⟩

theorem model_sign (s : ByteArray) (hs : s.size = 6) (h : Int) (w : World) (h0 : ¬ (s[0].toNat : Int) = 43) (h0' : ¬ (s[0].toNat : Int) = 45) :
    Calls Yba.prog 5 #[.string s, .int .i64 h] w fun e w' => e = .returned (.tuple #[.int .i64 0, .int .i64 1]) ∧ Grown w w' := by
  go_enter Yba.func5, Yba.ntmps5
  go_wp2
  go_ret2
  exact ⟨rfl, Grown.refl _⟩

theorem model_colon (s : ByteArray) (hs : s.size = 6) (h : Int) (w : World) (h0 : (s[0].toNat : Int) = 43 ∨ (s[0].toNat : Int) = 45) (h3 : ¬ (s[3].toNat : Int) = 58) :
    Calls Yba.prog 5 #[.string s, .int .i64 h] w fun e w' => e = .returned (.tuple #[.int .i64 0, .int .i64 1]) ∧ Grown w w' := by
  rcases h0 with h0 | h0
  all_goals
    go_enter Yba.func5, Yba.ntmps5
    go_wp2
    go_ret2
    exact ⟨rfl, Grown.refl _⟩

theorem model_d1 (s : ByteArray) (hs : s.size = 6) (h : Int) (w : World) (h0 : (s[0].toNat : Int) = 43 ∨ (s[0].toNat : Int) = 45) (h3 : (s[3].toNat : Int) = 58)
     (h1 : (s[1].toNat : Int) < 48 ∨ ((48 : Int) ≤ (s[1].toNat : Int) ∧ decide ((s[1].toNat : Int) ≤ 57) = false)) :
    Calls Yba.prog 5 #[.string s, .int .i64 h] w fun e w' => e = .returned (.tuple #[.int .i64 0, .int .i64 1]) ∧ Grown w w' := by
  rcases h0 with h0 | h0 <;> rcases h1 with h1 | ⟨h1, h1'⟩
  all_goals
    go_enter Yba.func5, Yba.ntmps5
    go_wp2
    refine wp_loop_rounds 1 ?_; rw [rounds_succ]
    go_wp2
    go_ret2
    exact ⟨rfl, (by repeat (first | exact Grown.refl _ | apply Grown.drew | apply Grown.alloc))⟩

theorem model_d2 (s : ByteArray) (hs : s.size = 6) (h : Int) (w : World) (h0 : (s[0].toNat : Int) = 43 ∨ (s[0].toNat : Int) = 45) (h3 : (s[3].toNat : Int) = 58)
    (h1 : (48 : Int) ≤ (s[1].toNat : Int)) (h1' : (s[1].toNat : Int) ≤ 57) (h2 : (s[2].toNat : Int) < 48 ∨ ((48 : Int) ≤ (s[2].toNat : Int) ∧ decide ((s[2].toNat : Int) ≤ 57) = false)) :
    Calls Yba.prog 5 #[.string s, .int .i64 h] w fun e w' => e = .returned (.tuple #[.int .i64 0, .int .i64 1]) ∧ Grown w w' := by
  rcases h0 with h0 | h0 <;> rcases h2 with h2 | ⟨h2, h2'⟩
  all_goals
    go_enter Yba.func5, Yba.ntmps5
    go_wp2
    refine wp_loop_rounds 2 ?_; rw [rounds_succ]
    go_wp2
    rw [rounds_succ]
    go_wp2
    go_ret2
    exact ⟨rfl, (by repeat (first | exact Grown.refl _ | apply Grown.drew | apply Grown.alloc))⟩

theorem model_d4 (s : ByteArray) (hs : s.size = 6) (h : Int) (w : World) (h0 : (s[0].toNat : Int) = 43 ∨ (s[0].toNat : Int) = 45) (h3 : (s[3].toNat : Int) = 58)
    (h1 : (48 : Int) ≤ (s[1].toNat : Int)) (h1' : (s[1].toNat : Int) ≤ 57) (h2 : (48 : Int) ≤ (s[2].toNat : Int)) (h2' : (s[2].toNat : Int) ≤ 57) (h4 : (s[4].toNat : Int) < 48 ∨ ((48 : Int) ≤ (s[4].toNat : Int) ∧ decide ((s[4].toNat : Int) ≤ 57) = false)) :
    Calls Yba.prog 5 #[.string s, .int .i64 h] w fun e w' => e = .returned (.tuple #[.int .i64 0, .int .i64 1]) ∧ Grown w w' := by
  rcases h0 with h0 | h0 <;> rcases h4 with h4 | ⟨h4, h4'⟩
  all_goals
    go_enter Yba.func5, Yba.ntmps5
    go_wp2
    refine wp_loop_rounds 3 ?_; rw [rounds_succ]
    go_wp2
    rw [rounds_succ]
    go_wp2
    rw [rounds_succ]
    go_wp2
    go_ret2
    exact ⟨rfl, (by repeat (first | exact Grown.refl _ | apply Grown.drew | apply Grown.alloc))⟩

theorem model_d5 (s : ByteArray) (hs : s.size = 6) (h : Int) (w : World) (h0 : (s[0].toNat : Int) = 43 ∨ (s[0].toNat : Int) = 45) (h3 : (s[3].toNat : Int) = 58)
    (h1 : (48 : Int) ≤ (s[1].toNat : Int)) (h1' : (s[1].toNat : Int) ≤ 57) (h2 : (48 : Int) ≤ (s[2].toNat : Int)) (h2' : (s[2].toNat : Int) ≤ 57) (h4 : (48 : Int) ≤ (s[4].toNat : Int)) (h4' : (s[4].toNat : Int) ≤ 57) (h5 : (s[5].toNat : Int) < 48 ∨ ((48 : Int) ≤ (s[5].toNat : Int) ∧ decide ((s[5].toNat : Int) ≤ 57) = false)) :
    Calls Yba.prog 5 #[.string s, .int .i64 h] w fun e w' => e = .returned (.tuple #[.int .i64 0, .int .i64 1]) ∧ Grown w w' := by
  rcases h0 with h0 | h0 <;> rcases h5 with h5 | ⟨h5, h5'⟩
  all_goals
    go_enter Yba.func5, Yba.ntmps5
    go_wp2
    refine wp_loop_rounds 4 ?_; rw [rounds_succ]
    go_wp2
    rw [rounds_succ]
    go_wp2
    rw [rounds_succ]
    go_wp2
    rw [rounds_succ]
    go_wp2
    go_ret2
    exact ⟨rfl, (by repeat (first | exact Grown.refl _ | apply Grown.drew | apply Grown.alloc))⟩

end Go.Proofs.Ybulkdmmu
