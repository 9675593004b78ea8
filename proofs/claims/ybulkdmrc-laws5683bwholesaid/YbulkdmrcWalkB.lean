import Derived.Test.YbulkdmrcWalkA
namespace Go.Proofs.Ybulkdmrc
open Go.ChangeShapes Go.WideShapes Go.ChangeAt Go.RowKit
set_option linter.unusedVariables false

/-! ### The two functions at a suffix -/
/-- 'zzs5683bends' at a suffix of three bytes. -/
theorem zz_any (s : ByteArray) (hs : s.size ≤ maxLen) (w : World) :
    (Calls Yba.prog 4 #[.string s, .string ⟨#[105, 51, 50]⟩] w fun e w' => e = .returned (.bool (ends s ⟨#[105, 51, 50]⟩)) ∧ Grown w w') ∧
    (Calls Yba.prog 4 #[.string s, .string ⟨#[105, 54, 52]⟩] w fun e w' => e = .returned (.bool (ends s ⟨#[105, 54, 52]⟩)) ∧ Grown w w') := by
  rcases Nat.lt_or_ge s.size 3 with h | h
  · exact ⟨(zz_short s ⟨#[105, 51, 50]⟩ h w).mono fun e w' ⟨a, b⟩ => ⟨a, b ▸ Grown.refl _⟩, (zz_short s ⟨#[105, 54, 52]⟩ h w).mono fun e w' ⟨a, b⟩ => ⟨a, b ▸ Grown.refl _⟩⟩
  · exact ⟨zz_i32 s (s.size - 3) (by omega) hs w, zz_i64 s (s.size - 3) (by omega) hs w⟩

/-- The last byte is 'z'. -/
theorem ends_z (s : ByteArray) (o : Nat) (ho : s.size = o + 1) : ends s ⟨#[122]⟩ = ((s[o].toNat : Int) == 122) := by
  rw [ends1 s o ho]
  show (s[o] == 122 && true) = _
  rw [Bool.and_true, Bool.eq_iff_iff]
  simp only [beq_iff_eq]
  exact ⟨fun h => by rw [h]; rfl, fun h => UInt8.toNat_inj.1 (by show s[o].toNat = 122; omega)⟩

/-! ### cutSuffix: its four ways -/
theorem cs_z (s : ByteArray) (hs : s.size ≤ maxLen) (h1 : ends s ⟨#[122]⟩ = true) (w : World) :
    Calls Yba.prog 5 #[.string s] w fun e w' => e = .returned (.tuple #[.string (s.extract 0 (s.size - 1)), .string ⟨#[122]⟩]) ∧ Grown w w' := by
  have H0 : Hid (∀ w, _) := fun w => cut_yes s ⟨#[122]⟩ hs (by decide) h1 w
  clear h1
  go_enter Yba.func5, Yba.ntmps5
  go_wp2
  refine wp_loop_rounds 1 ?_; rw [rounds_succ]
  go_wp2_with fail
  refine (H0.out _).mono ?_
  rintro e w1 ⟨rfl, rfl⟩
  go_wp2_with fail
  go_ret2
  exact ⟨rfl, by repeat (first | exact Grown.refl _ | apply Grown.drew | apply Grown.alloc)⟩

theorem cs_i32 (s : ByteArray) (hs : s.size ≤ maxLen) (h1 : ends s ⟨#[122]⟩ = false) (h2 : ends s ⟨#[105, 51, 50]⟩ = true) (w : World) :
    Calls Yba.prog 5 #[.string s] w fun e w' => e = .returned (.tuple #[.string (s.extract 0 (s.size - 3)), .string ⟨#[105, 51, 50]⟩]) ∧ Grown w w' := by
  have H0 : Hid (∀ w, _) := fun w => cut_no s ⟨#[122]⟩ hs (by decide) h1 w
  have H1 : Hid (∀ w, _) := fun w => cut_yes s ⟨#[105, 51, 50]⟩ hs (by decide) h2 w
  clear h1 h2
  go_enter Yba.func5, Yba.ntmps5
  go_wp2
  refine wp_loop_rounds 2 ?_; rw [rounds_succ]
  go_wp2_with fail
  refine (H0.out _).mono ?_
  rintro e w1 ⟨rfl, rfl⟩
  go_wp2_with fail
  rw [rounds_succ]
  go_wp2_with fail
  refine (H1.out _).mono ?_
  rintro e w2 ⟨rfl, rfl⟩
  go_wp2_with fail
  go_ret2
  exact ⟨rfl, by repeat (first | exact Grown.refl _ | apply Grown.drew | apply Grown.alloc)⟩

theorem cs_i64 (s : ByteArray) (hs : s.size ≤ maxLen) (h1 : ends s ⟨#[122]⟩ = false) (h2 : ends s ⟨#[105, 51, 50]⟩ = false) (h3 : ends s ⟨#[105, 54, 52]⟩ = true) (w : World) :
    Calls Yba.prog 5 #[.string s] w fun e w' => e = .returned (.tuple #[.string (s.extract 0 (s.size - 3)), .string ⟨#[105, 54, 52]⟩]) ∧ Grown w w' := by
  have H0 : Hid (∀ w, _) := fun w => cut_no s ⟨#[122]⟩ hs (by decide) h1 w
  have H1 : Hid (∀ w, _) := fun w => cut_no s ⟨#[105, 51, 50]⟩ hs (by decide) h2 w
  have H2 : Hid (∀ w, _) := fun w => cut_yes s ⟨#[105, 54, 52]⟩ hs (by decide) h3 w
  clear h1 h2 h3
  go_enter Yba.func5, Yba.ntmps5
  go_wp2
  refine wp_loop_rounds 3 ?_; rw [rounds_succ]
  go_wp2_with fail
  refine (H0.out _).mono ?_
  rintro e w1 ⟨rfl, rfl⟩
  go_wp2_with fail
  rw [rounds_succ]
  go_wp2_with fail
  refine (H1.out _).mono ?_
  rintro e w2 ⟨rfl, rfl⟩
  go_wp2_with fail
  rw [rounds_succ]
  go_wp2_with fail
  refine (H2.out _).mono ?_
  rintro e w3 ⟨rfl, rfl⟩
  go_wp2_with fail
  go_ret2
  exact ⟨rfl, by repeat (first | exact Grown.refl _ | apply Grown.drew | apply Grown.alloc)⟩

theorem cs_none (s : ByteArray) (hs : s.size ≤ maxLen) (h1 : ends s ⟨#[122]⟩ = false) (h2 : ends s ⟨#[105, 51, 50]⟩ = false) (h3 : ends s ⟨#[105, 54, 52]⟩ = false) (w : World) :
    Calls Yba.prog 5 #[.string s] w fun e w' => e = .returned (.tuple #[.string s, .string ⟨#[]⟩]) ∧ Grown w w' := by
  have H0 : Hid (∀ w, _) := fun w => cut_no s ⟨#[122]⟩ hs (by decide) h1 w
  have H1 : Hid (∀ w, _) := fun w => cut_no s ⟨#[105, 51, 50]⟩ hs (by decide) h2 w
  have H2 : Hid (∀ w, _) := fun w => cut_no s ⟨#[105, 54, 52]⟩ hs (by decide) h3 w
  clear h1 h2 h3
  go_enter Yba.func5, Yba.ntmps5
  go_wp2
  refine wp_loop_rounds 4 ?_; rw [rounds_succ]
  go_wp2_with fail
  refine (H0.out _).mono ?_
  rintro e w1 ⟨rfl, rfl⟩
  go_wp2_with fail
  rw [rounds_succ]
  go_wp2_with fail
  refine (H1.out _).mono ?_
  rintro e w2 ⟨rfl, rfl⟩
  go_wp2_with fail
  rw [rounds_succ]
  go_wp2_with fail
  refine (H2.out _).mono ?_
  rintro e w3 ⟨rfl, rfl⟩
  go_wp2_with fail
  rw [rounds_succ]
  go_wp2_with fail
  go_ret2
  exact ⟨rfl, by repeat (first | exact Grown.refl _ | apply Grown.drew | apply Grown.alloc)⟩

end Go.Proofs.Ybulkdmrc
