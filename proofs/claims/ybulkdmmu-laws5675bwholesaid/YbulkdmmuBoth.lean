import Derived.Test.YbulkdmmuWalkB
import Derived.Test.YbulkdmmuWalkC
namespace Go.Proofs.Ybulkdmmu
open Go.ChangeShapes Go.WideShapes Go.ChangeAt Go.RowKit

/-- readOffset and the model answer alike, whatever the string and the hours. -/
theorem both (s : ByteArray) (h : Int) : ∃ r1 r2 : Int,
    (∀ w, Calls Yba.prog 4 #[.string s, .int .i64 h] w fun e w' => e = .returned (.tuple #[.int .i64 r1, .int .i64 r2]) ∧ Grown w w') ∧
    (∀ w, Calls Yba.prog 5 #[.string s, .int .i64 h] w fun e w' => e = .returned (.tuple #[.int .i64 r1, .int .i64 r2]) ∧ Grown w w') := by
  by_cases hs : s.size = 6
  case neg => exact ⟨0, 1, read_size s (by omega) h, model_size s (by omega) h⟩
  by_cases hp : (s[0].toNat : Int) = 43 ∨ (s[0].toNat : Int) = 45
  case neg => exact ⟨0, 1, fun w => read_sign s hs h w (fun e => hp (.inl e)) (fun e => hp (.inr e)), fun w => model_sign s hs h w (fun e => hp (.inl e)) (fun e => hp (.inr e))⟩
  by_cases h3 : (s[3].toNat : Int) = 58
  case neg => exact ⟨0, 1, fun w => read_colon s hs h w hp h3, fun w => model_colon s hs h w hp h3⟩
  have bad : ∀ c : Int, ¬ (48 ≤ c ∧ c ≤ 57) → c < 48 ∨ ((48 : Int) ≤ c ∧ decide (c ≤ 57) = false) := by
    intro c hc
    by_cases h48 : c < 48
    · exact .inl h48
    · exact .inr ⟨by omega, by simp; omega⟩
  by_cases h1 : (48 : Int) ≤ (s[1].toNat : Int) ∧ (s[1].toNat : Int) ≤ 57
  case neg => exact ⟨0, 1, fun w => read_d1 s hs h w hp h3 (bad _ h1), fun w => model_d1 s hs h w hp h3 (bad _ h1)⟩
  by_cases h2 : (48 : Int) ≤ (s[2].toNat : Int) ∧ (s[2].toNat : Int) ≤ 57
  case neg => exact ⟨0, 1, fun w => read_d2 s hs h w hp h3 h1.1 h1.2 (bad _ h2), fun w => model_d2 s hs h w hp h3 h1.1 h1.2 (bad _ h2)⟩
  by_cases h4 : (48 : Int) ≤ (s[4].toNat : Int) ∧ (s[4].toNat : Int) ≤ 57
  case neg => exact ⟨0, 1, fun w => read_d4 s hs h w hp h3 h1.1 h1.2 h2.1 h2.2 (bad _ h4), fun w => model_d4 s hs h w hp h3 h1.1 h1.2 h2.1 h2.2 (bad _ h4)⟩
  by_cases h5 : (48 : Int) ≤ (s[5].toNat : Int) ∧ (s[5].toNat : Int) ≤ 57
  case neg => exact ⟨0, 1, fun w => read_d5 s hs h w hp h3 h1.1 h1.2 h2.1 h2.2 h4.1 h4.2 (bad _ h5), fun w => model_d5 s hs h w hp h3 h1.1 h1.2 h2.1 h2.2 h4.1 h4.2 (bad _ h5)⟩
  by_cases hr : h < two (s[1].toNat : Int) (s[2].toNat : Int) ∨ (two (s[1].toNat : Int) (s[2].toNat : Int) ≤ h ∧ (59 : Int) < two (s[4].toNat : Int) (s[5].toNat : Int))
  · exact ⟨0, 3, fun w => read_range s hs h w hp h3 h1.1 h1.2 h2.1 h2.2 h4.1 h4.2 h5.1 h5.2 hr, fun w => model_range s hs h w hp h3 h1.1 h1.2 h2.1 h2.2 h4.1 h4.2 h5.1 h5.2 hr⟩
  have hr1 : two (s[1].toNat : Int) (s[2].toNat : Int) ≤ h := by omega
  have hr2 : two (s[4].toNat : Int) (s[5].toNat : Int) ≤ 59 := by omega
  obtain ⟨sg, hsg⟩ : ∃ sg : Int, ((s[0].toNat : Int) = 43 ∧ sg = 1) ∨ ((s[0].toNat : Int) = 45 ∧ sg = -1) := by
    rcases hp with hp | hp
    · exact ⟨1, .inl ⟨hp, rfl⟩⟩
    · exact ⟨-1, .inr ⟨hp, rfl⟩⟩
  exact ⟨_, 0, fun w => read_fine s hs h w sg hsg h3 h1.1 h1.2 h2.1 h2.2 h4.1 h4.2 h5.1 h5.2 hr1 hr2, fun w => model_fine s hs h w sg hsg h3 h1.1 h1.2 h2.1 h2.2 h4.1 h4.2 h5.1 h5.2 hr1 hr2⟩

theorem law_raw (a0 : ByteArray) (a2 : Bool) (a3 a4 a5 a6 a7 : Int) (w : World) :
    Calls Yba.prog 3 #[.string a0, .bool false, .bool a2, .int .u8 a3, .int .u8 a4, .int .u8 a5, .int .u8 a6, .int .i64 a7] w fun e w' => e = .returned (.bool true) ∧ Grown w w' := by
  obtain ⟨r1, r2, H4, H5⟩ := both a0 a7
  have G4 : Hid _ := H4
  have G5 : Hid _ := H5
  clear H4 H5
  go_enter Yba.func3, Yba.ntmps3
  go_wp2_with fail
  refine (G4.out _).mono ?_
  rintro e w1 ⟨rfl, g1⟩
  go_wp2_with fail
  refine (G5.out _).mono ?_
  rintro e w2 ⟨rfl, g2⟩
  go_wp2_with fail
  go_ret
  exact ⟨rfl, grown_trans g1 g2⟩

theorem conv6 (w : World) (x0 x1 x2 x3 x4 x5 : Int) :
    (convert 22 9 (.slice (some ⟨w.heap.size, 0, none⟩) 6 6)).run Yba.prog (w.alloc (.cells #[.int .u8 x0, .int .u8 x1, .int .u8 x2, .int .u8 x3, .int .u8 x4, .int .u8 x5] 5)) =
      .ok (.string (strOfNums [x0, x1, x2, x3, x4, x5])) (w.alloc (.cells #[.int .u8 x0, .int .u8 x1, .int .u8 x2, .int .u8 x3, .int .u8 x4, .int .u8 x5] 5)) := by
  refine run_convert_bytes_arg _ 22 5 Yba.underlying22 Yba.underlying5 w.heap.size 0 6 6 [x0, x1, x2, x3, x4, x5] rfl ?_ 9 Yba.underlying9
  intro i hi
  rw [Nat.zero_add, World.cell?_alloc_mark]
  match i, hi with
  | 0, _ => rfl
  | 1, _ => rfl
  | 2, _ => rfl
  | 3, _ => rfl
  | 4, _ => rfl
  | 5, _ => rfl

theorem law_built (a0 : ByteArray) (a2 : Bool) (a3 a4 a5 a6 a7 : Int) (w3 : (Lit.int .u8 a3).wf = true) (w4 : (Lit.int .u8 a4).wf = true) (w5 : (Lit.int .u8 a5).wf = true) (w6 : (Lit.int .u8 a6).wf = true) (w : World) :
    Calls Yba.prog 3 #[.string a0, .bool true, .bool a2, .int .u8 a3, .int .u8 a4, .int .u8 a5, .int .u8 a6, .int .i64 a7] w fun e w' => e = .returned (.bool true) ∧ Grown w w' := by
  have b3 := bounds_u8 w3
  have b4 := bounds_u8 w4
  have b5 := bounds_u8 w5
  have b6 := bounds_u8 w6
  have hmk : ∀ w : World, (Instr.makeSlice 22 (.int .i64 6) (.int .i64 6)).run Yba.prog w = .ok (.slice (some ⟨w.heap.size, 0, none⟩) 6 6) (w.alloc (.cells #[.int .u8 0, .int .u8 0, .int .u8 0, .int .u8 0, .int .u8 0, .int .u8 0] 5)) := fun _ => by kernel_rfl
  have hcv := conv6
  cases a2
  all_goals
    go_enter Yba.func3, Yba.ntmps3
    go_wp2_with fail
    generalize strOfNums _ = s
    obtain ⟨r1, r2, H4, H5⟩ := both s a7
    have G4 : Hid _ := H4
    have G5 : Hid _ := H5
    clear H4 H5
    refine (G4.out _).mono ?_
    rintro e w1 ⟨rfl, g1⟩
    go_wp2_with fail
    refine (G5.out _).mono ?_
    rintro e w2 ⟨rfl, g2⟩
    go_wp2_with fail
    go_ret
    exact ⟨rfl, grown_trans ((Grown.refl w).alloc _ _) (grown_trans g1 g2)⟩
end Go.Proofs.Ybulkdmmu
