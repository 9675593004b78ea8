import Derived.Test.YbulkdmmuRows
import Derived.WalkKit
import Derived.ProofKit
import Derived.OpenShut
import Derived.ShutString
import Derived.WalkSpells
import Derived.Deep.QuietTactic
import Derived.BigQuiet
import Derived.Deep.RegionWith
namespace Go.Proofs.Ybulkdmmu
open Go.ChangeShapes Go.WideShapes Go.ChangeAt Go.RowKit

/-! ### Worlds -/
theorem grown_trans {a b c : World} (h : Grown a b) (k : Grown b c) : Grown a c :=
  ⟨World.keptBut_trans h.1 k.1, fun x => (k.2.1 x).trans (h.2.1 x), Nat.le_trans h.2.2 k.2.2⟩
theorem grown_drewN (w : World) (n : Nat) : Grown w (w.drewN n) := Grown.refl w

/-- two decimal digits -/
def two (x y : Int) : Int := (x - 48) * 10 + (y - 48)

theorem number_any (s : ByteArray) (hs : s.size = 2) (h0 : (48 : Int) ≤ (s[0].toNat : Int)) (h1 : (48 : Int) ≤ (s[1].toNat : Int)) (w : World) :
    Calls Yba.prog 7 #[.string s] w fun e w' => e = .returned (.int .i64 (two (s[0].toNat : Int) (s[1].toNat : Int))) ∧ w' = w := by
  have b0 : (s[0].toNat : Int) < 256 := by have := s[0].toNat_lt; omega
  have b1 : (s[1].toNat : Int) < 256 := by have := s[1].toNat_lt; omega
  go_enter Yba.func7, Yba.ntmps7
  go_wp2
  refine wp_loop_rounds 3 ?_; rw [rounds_succ]
  go_wp2
  rw [rounds_succ]
  go_wp2
  rw [rounds_succ]
  go_wp2
  go_ret
  exact ⟨rfl, rfl⟩

theorem number_at (s : ByteArray) (i j : Nat) (hs : s.size = 6) (hi : i + 2 ≤ 6) (hj : j = i + 2) (h0 : (48 : Int) ≤ (s[i].toNat : Int)) (h1 : (48 : Int) ≤ (s[i + 1].toNat : Int)) (w : World) :
    Calls Yba.prog 7 #[.string (s.extract i j)] w fun e w' => e = .returned (.int .i64 (two (s[i].toNat : Int) (s[i+1].toNat : Int))) ∧ w' = w := by
  subst hj
  have hsz : (s.extract i (i + 2)).size = 2 := by simp [ByteArray.size_extract]; omega
  have e0 : (s.extract i (i + 2))[0] = s[i] := by simp [ByteArray.getElem_extract]
  have e1 : (s.extract i (i + 2))[1] = s[i + 1] := by simp [ByteArray.getElem_extract]
  have := number_any (s.extract i (i + 2)) hsz (by rw [e0]; exact h0) (by rw [e1]; exact h1) w
  rw [e0, e1] at this
  exact this

/-! ### readOffset: its ways -/
theorem read_size (s : ByteArray) (hs : ¬ (s.size : Int) = 6) (h : Int) (w : World) :
    Calls Yba.prog 4 #[.string s, .int .i64 h] w fun e w' => e = .returned (.tuple #[.int .i64 0, .int .i64 1]) ∧ Grown w w' := by
  go_enter Yba.func4, Yba.ntmps4
  go_wp2
  go_ret2
  exact ⟨rfl, Grown.refl _⟩

theorem read_sign (s : ByteArray) (hs : s.size = 6) (h : Int) (w : World) (h0 : ¬ (s[0].toNat : Int) = 43) (h0' : ¬ (s[0].toNat : Int) = 45) :
    Calls Yba.prog 4 #[.string s, .int .i64 h] w fun e w' => e = .returned (.tuple #[.int .i64 0, .int .i64 1]) ∧ Grown w w' := by
  go_enter Yba.func4, Yba.ntmps4
  go_wp2
  go_ret2
  exact ⟨rfl, Grown.refl _⟩

theorem read_colon (s : ByteArray) (hs : s.size = 6) (h : Int) (w : World) (h0 : (s[0].toNat : Int) = 43 ∨ (s[0].toNat : Int) = 45) (h3 : ¬ (s[3].toNat : Int) = 58) :
    Calls Yba.prog 4 #[.string s, .int .i64 h] w fun e w' => e = .returned (.tuple #[.int .i64 0, .int .i64 1]) ∧ Grown w w' := by
  rcases h0 with h0 | h0
  all_goals
    go_enter Yba.func4, Yba.ntmps4
    go_wp2
    go_ret2
    exact ⟨rfl, Grown.refl _⟩

theorem read_d1 (s : ByteArray) (hs : s.size = 6) (h : Int) (w : World) (h0 : (s[0].toNat : Int) = 43 ∨ (s[0].toNat : Int) = 45) (h3 : (s[3].toNat : Int) = 58)
    (h1 : (s[1].toNat : Int) < 48 ∨ ((48 : Int) ≤ (s[1].toNat : Int) ∧ decide ((s[1].toNat : Int) ≤ 57) = false)) :
    Calls Yba.prog 4 #[.string s, .int .i64 h] w fun e w' => e = .returned (.tuple #[.int .i64 0, .int .i64 1]) ∧ Grown w w' := by
  rcases h0 with h0 | h0 <;> rcases h1 with h1 | ⟨h1, h1'⟩
  all_goals
    go_enter Yba.func4, Yba.ntmps4
    go_wp2
    go_ret2
    exact ⟨rfl, Grown.refl _⟩

theorem read_d2 (s : ByteArray) (hs : s.size = 6) (h : Int) (w : World) (h0 : (s[0].toNat : Int) = 43 ∨ (s[0].toNat : Int) = 45) (h3 : (s[3].toNat : Int) = 58)
    (h1 : (48 : Int) ≤ (s[1].toNat : Int)) (h1' : (s[1].toNat : Int) ≤ 57) (h2 : (s[2].toNat : Int) < 48 ∨ ((48 : Int) ≤ (s[2].toNat : Int) ∧ decide ((s[2].toNat : Int) ≤ 57) = false)) :
    Calls Yba.prog 4 #[.string s, .int .i64 h] w fun e w' => e = .returned (.tuple #[.int .i64 0, .int .i64 1]) ∧ Grown w w' := by
  rcases h0 with h0 | h0 <;> rcases h2 with h2 | ⟨h2, h2'⟩
  all_goals
    go_enter Yba.func4, Yba.ntmps4
    go_wp2
    go_ret2
    exact ⟨rfl, Grown.refl _⟩

theorem read_d4 (s : ByteArray) (hs : s.size = 6) (h : Int) (w : World) (h0 : (s[0].toNat : Int) = 43 ∨ (s[0].toNat : Int) = 45) (h3 : (s[3].toNat : Int) = 58)
    (h1 : (48 : Int) ≤ (s[1].toNat : Int)) (h1' : (s[1].toNat : Int) ≤ 57) (h2 : (48 : Int) ≤ (s[2].toNat : Int)) (h2' : (s[2].toNat : Int) ≤ 57) (h4 : (s[4].toNat : Int) < 48 ∨ ((48 : Int) ≤ (s[4].toNat : Int) ∧ decide ((s[4].toNat : Int) ≤ 57) = false)) :
    Calls Yba.prog 4 #[.string s, .int .i64 h] w fun e w' => e = .returned (.tuple #[.int .i64 0, .int .i64 1]) ∧ Grown w w' := by
  rcases h0 with h0 | h0 <;> rcases h4 with h4 | ⟨h4, h4'⟩
  all_goals
    go_enter Yba.func4, Yba.ntmps4
    go_wp2
    go_ret2
    exact ⟨rfl, Grown.refl _⟩

theorem read_d5 (s : ByteArray) (hs : s.size = 6) (h : Int) (w : World) (h0 : (s[0].toNat : Int) = 43 ∨ (s[0].toNat : Int) = 45) (h3 : (s[3].toNat : Int) = 58)
    (h1 : (48 : Int) ≤ (s[1].toNat : Int)) (h1' : (s[1].toNat : Int) ≤ 57) (h2 : (48 : Int) ≤ (s[2].toNat : Int)) (h2' : (s[2].toNat : Int) ≤ 57)
    (h4 : (48 : Int) ≤ (s[4].toNat : Int)) (h4' : (s[4].toNat : Int) ≤ 57) (h5 : (s[5].toNat : Int) < 48 ∨ ((48 : Int) ≤ (s[5].toNat : Int) ∧ decide ((s[5].toNat : Int) ≤ 57) = false)) :
    Calls Yba.prog 4 #[.string s, .int .i64 h] w fun e w' => e = .returned (.tuple #[.int .i64 0, .int .i64 1]) ∧ Grown w w' := by
  rcases h0 with h0 | h0 <;> rcases h5 with h5 | ⟨h5, h5'⟩
  all_goals
    go_enter Yba.func4, Yba.ntmps4
    go_wp2
    go_ret2
    exact ⟨rfl, Grown.refl _⟩

theorem read_range (s : ByteArray) (hs : s.size = 6) (h : Int) (w : World) (h0 : (s[0].toNat : Int) = 43 ∨ (s[0].toNat : Int) = 45) (h3 : (s[3].toNat : Int) = 58)
    (h1 : (48 : Int) ≤ (s[1].toNat : Int)) (h1' : (s[1].toNat : Int) ≤ 57) (h2 : (48 : Int) ≤ (s[2].toNat : Int)) (h2' : (s[2].toNat : Int) ≤ 57)
    (h4 : (48 : Int) ≤ (s[4].toNat : Int)) (h4' : (s[4].toNat : Int) ≤ 57) (h5 : (48 : Int) ≤ (s[5].toNat : Int)) (h5' : (s[5].toNat : Int) ≤ 57)
    (hr : h < two (s[1].toNat : Int) (s[2].toNat : Int) ∨ (two (s[1].toNat : Int) (s[2].toNat : Int) ≤ h ∧ (59 : Int) < two (s[4].toNat : Int) (s[5].toNat : Int))) :
    Calls Yba.prog 4 #[.string s, .int .i64 h] w fun e w' => e = .returned (.tuple #[.int .i64 0, .int .i64 3]) ∧ Grown w w' := by
  rcases h0 with h0 | h0 <;> rcases hr with hr | ⟨hr, hr'⟩
  all_goals
    go_enter Yba.func4, Yba.ntmps4
    go_wp2
    go_quiet ((first | (go_at_call_of 7 (s.extract 1 3); exact Calls.quiet_of_same (number_at s 1 3 hs (by omega) rfl h1 h2 _)) | (go_at_call_of 7 (s.extract 4 6); exact Calls.quiet_of_same (number_at s 4 6 hs (by omega) rfl h4 h5 _))))
    go_wp2
    go_ret2
    exact ⟨rfl, grown_drewN _ _⟩

theorem tup_int {a b : Int} (h : a = b) : Ending.returned (.tuple #[.int .i64 a, .int .i64 0]) = .returned (.tuple #[.int .i64 b, .int .i64 0]) := by rw [h]

theorem read_fine (s : ByteArray) (hs : s.size = 6) (h : Int) (w : World) (sg : Int) (h0 : ((s[0].toNat : Int) = 43 ∧ sg = 1) ∨ ((s[0].toNat : Int) = 45 ∧ sg = -1)) (h3 : (s[3].toNat : Int) = 58)
    (h1 : (48 : Int) ≤ (s[1].toNat : Int)) (h1' : (s[1].toNat : Int) ≤ 57) (h2 : (48 : Int) ≤ (s[2].toNat : Int)) (h2' : (s[2].toNat : Int) ≤ 57)
    (h4 : (48 : Int) ≤ (s[4].toNat : Int)) (h4' : (s[4].toNat : Int) ≤ 57) (h5 : (48 : Int) ≤ (s[5].toNat : Int)) (h5' : (s[5].toNat : Int) ≤ 57)
    (hr : two (s[1].toNat : Int) (s[2].toNat : Int) ≤ h) (hr' : two (s[4].toNat : Int) (s[5].toNat : Int) ≤ 59) :
    Calls Yba.prog 4 #[.string s, .int .i64 h] w fun e w' => e = .returned (.tuple #[.int .i64 (sg * (two (s[1].toNat : Int) (s[2].toNat : Int) * 3600 + two (s[4].toNat : Int) (s[5].toNat : Int) * 60)), .int .i64 0]) ∧ Grown w w' := by
  have ha : 0 ≤ two (s[1].toNat : Int) (s[2].toNat : Int) ∧ two (s[1].toNat : Int) (s[2].toNat : Int) ≤ 99 := by unfold two; omega
  have hb : 0 ≤ two (s[4].toNat : Int) (s[5].toNat : Int) ∧ two (s[4].toNat : Int) (s[5].toNat : Int) ≤ 59 := by unfold two at hr' ⊢; omega
  rcases h0 with ⟨h0, rfl⟩ | ⟨h0, rfl⟩
  all_goals
    go_enter Yba.func4, Yba.ntmps4
    go_wp2
    go_quiet ((first | (go_at_call_of 7 (s.extract 1 3); exact Calls.quiet_of_same (number_at s 1 3 hs (by omega) rfl h1 h2 _)) | (go_at_call_of 7 (s.extract 4 6); exact Calls.quiet_of_same (number_at s 4 6 hs (by omega) rfl h4 h5 _))))
    go_wp2
    go_ret2
    exact ⟨tup_int (by omega), grown_drewN _ _⟩
end Go.Proofs.Ybulkdmmu
