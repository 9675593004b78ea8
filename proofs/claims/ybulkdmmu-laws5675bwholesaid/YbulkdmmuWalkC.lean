import Derived.Test.YbulkdmmuWalkA
namespace Go.Proofs.Ybulkdmmu
open Go.ChangeShapes Go.WideShapes Go.ChangeAt Go.RowKit

/-! ### The model: its ways behind the digits -/
theorem grown_end {w : World} {n : Nat} (o : Array Value) (t : TypeId) : Grown w ((w.alloc (.cells o t)).drewN n) := grown_trans ((Grown.refl w).alloc o t) (grown_drewN _ _)

theorem model_range (s : ByteArray) (hs : s.size = 6) (h : Int) (w : World) (h0 : (s[0].toNat : Int) = 43 ∨ (s[0].toNat : Int) = 45) (h3 : (s[3].toNat : Int) = 58)
    (h1 : (48 : Int) ≤ (s[1].toNat : Int)) (h1' : (s[1].toNat : Int) ≤ 57) (h2 : (48 : Int) ≤ (s[2].toNat : Int)) (h2' : (s[2].toNat : Int) ≤ 57) (h4 : (48 : Int) ≤ (s[4].toNat : Int)) (h4' : (s[4].toNat : Int) ≤ 57) (h5 : (48 : Int) ≤ (s[5].toNat : Int)) (h5' : (s[5].toNat : Int) ≤ 57)
    (hr : h < (((s[1].toNat : Int) - 48) * 10 + ((s[2].toNat : Int) - 48)) ∨ ((((s[1].toNat : Int) - 48) * 10 + ((s[2].toNat : Int) - 48)) ≤ h ∧ (59 : Int) < (((s[4].toNat : Int) - 48) * 10 + ((s[5].toNat : Int) - 48)))) :
    Calls Yba.prog 5 #[.string s, .int .i64 h] w fun e w' => e = .returned (.tuple #[.int .i64 0, .int .i64 3]) ∧ Grown w w' := by
  rcases h0 with h0 | h0 <;> rcases hr with hr | ⟨hr, hr'⟩
  all_goals
    go_enter Yba.func5, Yba.ntmps5
    go_wp2
    refine wp_loop_rounds 5 ?_; rw [rounds_succ]
    go_wp2
    rw [rounds_succ]
    go_wp2
    rw [rounds_succ]
    go_wp2
    rw [rounds_succ]
    go_wp2
    rw [rounds_succ]
    go_wp2
    go_quiet (fail)
    go_wp2
    go_quiet (fail)
    go_wp2
    go_ret2
    exact ⟨rfl, grown_end _ _⟩

theorem model_fine (s : ByteArray) (hs : s.size = 6) (h : Int) (w : World) (sg : Int) (h0 : ((s[0].toNat : Int) = 43 ∧ sg = 1) ∨ ((s[0].toNat : Int) = 45 ∧ sg = -1)) (h3 : (s[3].toNat : Int) = 58)
    (h1 : (48 : Int) ≤ (s[1].toNat : Int)) (h1' : (s[1].toNat : Int) ≤ 57) (h2 : (48 : Int) ≤ (s[2].toNat : Int)) (h2' : (s[2].toNat : Int) ≤ 57) (h4 : (48 : Int) ≤ (s[4].toNat : Int)) (h4' : (s[4].toNat : Int) ≤ 57) (h5 : (48 : Int) ≤ (s[5].toNat : Int)) (h5' : (s[5].toNat : Int) ≤ 57)
    (hr : (((s[1].toNat : Int) - 48) * 10 + ((s[2].toNat : Int) - 48)) ≤ h) (hr' : (((s[4].toNat : Int) - 48) * 10 + ((s[5].toNat : Int) - 48)) ≤ 59) :
    Calls Yba.prog 5 #[.string s, .int .i64 h] w fun e w' => e = .returned (.tuple #[.int .i64 (sg * ((((s[1].toNat : Int) - 48) * 10 + ((s[2].toNat : Int) - 48)) * 3600 + (((s[4].toNat : Int) - 48) * 10 + ((s[5].toNat : Int) - 48)) * 60)), .int .i64 0]) ∧ Grown w w' := by
  rcases h0 with ⟨h0, rfl⟩ | ⟨h0, rfl⟩
  all_goals
    go_enter Yba.func5, Yba.ntmps5
    go_wp2
    refine wp_loop_rounds 5 ?_; rw [rounds_succ]
    go_wp2
    rw [rounds_succ]
    go_wp2
    rw [rounds_succ]
    go_wp2
    rw [rounds_succ]
    go_wp2
    rw [rounds_succ]
    go_wp2
    go_quiet (fail)
    go_wp2
    go_quiet (fail)
    go_wp2
    go_ret2
    exact ⟨tup_int (by omega), grown_end _ _⟩

end Go.Proofs.Ybulkdmmu
