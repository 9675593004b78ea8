import Derived.Test.YbulkdmrcWalkB
namespace Go.Proofs.Ybulkdmrc
open Go.ChangeShapes Go.WideShapes Go.ChangeAt Go.RowKit
set_option linter.unusedVariables false

theorem grown_trans {a b c : World} (h : Grown a b) (k : Grown b c) : Grown a c :=
  ⟨World.keptBut_trans h.1 k.1, fun x => (k.2.1 x).trans (h.2.1 x), Nat.le_trans h.2.2 k.2.2⟩

theorem last_z (s : ByteArray) (hn : 1 ≤ s.size) (b : Bool) (h1 : ends s ⟨#[122]⟩ = b) : ((s[s.size - 1].toNat : Int) == 122) = b := by
  rw [← h1]
  exact (ends_z s (s.size - 1) (by omega)).symm
theorem zz_i32_is (s : ByteArray) (hs : s.size ≤ maxLen) (b : Bool) (h : ends s ⟨#[105, 51, 50]⟩ = b) (w : World) :
    Calls Yba.prog 4 #[.string s, .string ⟨#[105, 51, 50]⟩] w fun e w' => e = .returned (.bool b) ∧ Grown w w' := by
  rw [← h]; exact (zz_any s hs w).1
theorem zz_i64_is (s : ByteArray) (hs : s.size ≤ maxLen) (b : Bool) (h : ends s ⟨#[105, 54, 52]⟩ = b) (w : World) :
    Calls Yba.prog 4 #[.string s, .string ⟨#[105, 54, 52]⟩] w fun e w' => e = .returned (.bool b) ∧ Grown w w' := by
  rw [← h]; exact (zz_any s hs w).2

theorem law_z (s : ByteArray) (hs : s.size ≤ maxLen) (h1 : ends s ⟨#[122]⟩ = true) (w : World) :
    Calls Yba.prog 3 #[.string s] w fun e w' => e = .returned (.bool true) ∧ Grown w w' := by
  have C : Hid (∀ w, Calls Yba.prog 5 #[.string s] w fun e w' => e = .returned (.tuple #[.string (s.extract 0 (s.size - 1)), .string ⟨#[122]⟩]) ∧ Grown w w') := fun w => cs_z s hs h1 w
  have hj := join h1
  rw [show ByteArray.size ⟨#[122]⟩ = 1 from rfl] at hj
  have hn : 1 ≤ s.size := ends_size h1
  have hl := last_z s (by omega) true h1
  unfold maxLen at hs
  clear h1
  go_enter Yba.func3, Yba.ntmps3
  go_wp2_with fail
  refine (C.out _).mono ?_
  rintro e w9 ⟨rfl, g9⟩
  go_wp2_with fail
  go_ret
  exact ⟨rfl, g9⟩

theorem law_i32 (s : ByteArray) (hs : s.size ≤ maxLen) (h1 : ends s ⟨#[122]⟩ = false) (h2 : ends s ⟨#[105, 51, 50]⟩ = true) (w : World) :
    Calls Yba.prog 3 #[.string s] w fun e w' => e = .returned (.bool true) ∧ Grown w w' := by
  have C : Hid (∀ w, Calls Yba.prog 5 #[.string s] w fun e w' => e = .returned (.tuple #[.string (s.extract 0 (s.size - 3)), .string ⟨#[105, 51, 50]⟩]) ∧ Grown w w') := fun w => cs_i32 s hs h1 h2 w
  have hj := join h2
  rw [show ByteArray.size ⟨#[105, 51, 50]⟩ = 3 from rfl] at hj
  have hn : 3 ≤ s.size := ends_size h2
  have hl := last_z s (by omega) false h1
  have Z0 : Hid (∀ w, Calls Yba.prog 4 #[.string s, .string ⟨#[105, 51, 50]⟩] w fun e w' => e = .returned (.bool true) ∧ Grown w w') := fun w => zz_i32_is s hs true h2 w
  unfold maxLen at hs
  clear h1 h2
  go_enter Yba.func3, Yba.ntmps3
  go_wp2_with fail
  refine (Z0.out _).mono ?_
  rintro e w1 ⟨rfl, g1⟩
  go_wp2_with fail
  refine (C.out _).mono ?_
  rintro e w9 ⟨rfl, g9⟩
  go_wp2_with fail
  go_ret
  exact ⟨rfl, (grown_trans g1 g9)⟩

theorem law_i64 (s : ByteArray) (hs : s.size ≤ maxLen) (h1 : ends s ⟨#[122]⟩ = false) (h2 : ends s ⟨#[105, 51, 50]⟩ = false) (h3 : ends s ⟨#[105, 54, 52]⟩ = true) (w : World) :
    Calls Yba.prog 3 #[.string s] w fun e w' => e = .returned (.bool true) ∧ Grown w w' := by
  have C : Hid (∀ w, Calls Yba.prog 5 #[.string s] w fun e w' => e = .returned (.tuple #[.string (s.extract 0 (s.size - 3)), .string ⟨#[105, 54, 52]⟩]) ∧ Grown w w') := fun w => cs_i64 s hs h1 h2 h3 w
  have hj := join h3
  rw [show ByteArray.size ⟨#[105, 54, 52]⟩ = 3 from rfl] at hj
  have hn : 3 ≤ s.size := ends_size h3
  have hl := last_z s (by omega) false h1
  have Z0 : Hid (∀ w, Calls Yba.prog 4 #[.string s, .string ⟨#[105, 51, 50]⟩] w fun e w' => e = .returned (.bool false) ∧ Grown w w') := fun w => zz_i32_is s hs false h2 w
  have Z1 : Hid (∀ w, Calls Yba.prog 4 #[.string s, .string ⟨#[105, 54, 52]⟩] w fun e w' => e = .returned (.bool true) ∧ Grown w w') := fun w => zz_i64_is s hs true h3 w
  unfold maxLen at hs
  clear h1 h2 h3
  go_enter Yba.func3, Yba.ntmps3
  go_wp2_with fail
  refine (Z0.out _).mono ?_
  rintro e w1 ⟨rfl, g1⟩
  go_wp2_with fail
  refine (Z1.out _).mono ?_
  rintro e w2 ⟨rfl, g2⟩
  go_wp2_with fail
  refine (C.out _).mono ?_
  rintro e w9 ⟨rfl, g9⟩
  go_wp2_with fail
  go_ret
  exact ⟨rfl, (grown_trans g1 (grown_trans g2 g9))⟩

theorem nil_add (s : ByteArray) : s ++ ⟨#[]⟩ = s := by
  apply ByteArray.ext
  rw [ByteArray.data_append]
  exact Array.append_empty

theorem law_none (s : ByteArray) (hs : s.size ≤ maxLen) (hn : 1 ≤ s.size) (h1 : ends s ⟨#[122]⟩ = false) (h2 : ends s ⟨#[105, 51, 50]⟩ = false) (h3 : ends s ⟨#[105, 54, 52]⟩ = false) (w : World) :
    Calls Yba.prog 3 #[.string s] w fun e w' => e = .returned (.bool true) ∧ Grown w w' := by
  have C : Hid (∀ w, Calls Yba.prog 5 #[.string s] w fun e w' => e = .returned (.tuple #[.string s, .string ⟨#[]⟩]) ∧ Grown w w') := fun w => cs_none s hs h1 h2 h3 w
  have hj := nil_add s
  have hl := last_z s (by omega) false h1
  have Z0 : Hid (∀ w, Calls Yba.prog 4 #[.string s, .string ⟨#[105, 51, 50]⟩] w fun e w' => e = .returned (.bool false) ∧ Grown w w') := fun w => zz_i32_is s hs false h2 w
  have Z1 : Hid (∀ w, Calls Yba.prog 4 #[.string s, .string ⟨#[105, 54, 52]⟩] w fun e w' => e = .returned (.bool false) ∧ Grown w w') := fun w => zz_i64_is s hs false h3 w
  unfold maxLen at hs
  clear h1 h2 h3
  go_enter Yba.func3, Yba.ntmps3
  go_wp2_with fail
  refine (Z0.out _).mono ?_
  rintro e w1 ⟨rfl, g1⟩
  go_wp2_with fail
  refine (Z1.out _).mono ?_
  rintro e w2 ⟨rfl, g2⟩
  go_wp2_with fail
  refine (C.out _).mono ?_
  rintro e w9 ⟨rfl, g9⟩
  go_wp2_with fail
  go_ret
  exact ⟨rfl, (grown_trans g1 (grown_trans g2 g9))⟩

theorem law_empty (s : ByteArray) (hs : s.size ≤ maxLen) (hn : ¬ 1 ≤ s.size) (h1 : ends s ⟨#[122]⟩ = false) (h2 : ends s ⟨#[105, 51, 50]⟩ = false) (h3 : ends s ⟨#[105, 54, 52]⟩ = false) (w : World) :
    Calls Yba.prog 3 #[.string s] w fun e w' => e = .returned (.bool true) ∧ Grown w w' := by
  have C : Hid (∀ w, Calls Yba.prog 5 #[.string s] w fun e w' => e = .returned (.tuple #[.string s, .string ⟨#[]⟩]) ∧ Grown w w') := fun w => cs_none s hs h1 h2 h3 w
  have hj := nil_add s
  have hn' : ¬ (1 : Int) ≤ (s.size : Int) := by omega
  have Z0 : Hid (∀ w, Calls Yba.prog 4 #[.string s, .string ⟨#[105, 51, 50]⟩] w fun e w' => e = .returned (.bool false) ∧ Grown w w') := fun w => zz_i32_is s hs false h2 w
  have Z1 : Hid (∀ w, Calls Yba.prog 4 #[.string s, .string ⟨#[105, 54, 52]⟩] w fun e w' => e = .returned (.bool false) ∧ Grown w w') := fun w => zz_i64_is s hs false h3 w
  unfold maxLen at hs
  clear h1 h2 h3
  go_enter Yba.func3, Yba.ntmps3
  go_wp2_with fail
  refine (Z0.out _).mono ?_
  rintro e w1 ⟨rfl, g1⟩
  go_wp2_with fail
  refine (Z1.out _).mono ?_
  rintro e w2 ⟨rfl, g2⟩
  go_wp2_with fail
  refine (C.out _).mono ?_
  rintro e w9 ⟨rfl, g9⟩
  go_wp2_with fail
  go_ret
  exact ⟨rfl, (grown_trans g1 (grown_trans g2 g9))⟩

end Go.Proofs.Ybulkdmrc
