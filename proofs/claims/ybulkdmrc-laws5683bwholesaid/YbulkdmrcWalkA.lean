import Derived.Test.YbulkdmrcRows
import Derived.WalkKit
import Derived.ProofKit
import Derived.OpenShut
import Derived.ShutString
import Derived.WalkSpells
import Derived.Deep.QuietTactic
import Derived.BigQuiet
import Derived.Deep.RegionWith
import Derived.Lib.Strings
namespace Go.Proofs.Ybulkdmrc
open Go.ChangeShapes Go.WideShapes Go.ChangeAt Go.RowKit
set_option linter.unusedVariables false

/-! ### The plain law: does s end with p? -/
def ends (s p : ByteArray) : Bool := decide (p.size ≤ s.size) && ((s.extract (s.size - p.size) s.size).toList == p.toList)

theorem ends_short {s p : ByteArray} (h : s.size < p.size) : ends s p = false := by
  unfold ends; rw [decide_eq_false (by omega)]; rfl
theorem ends_long {s p : ByteArray} (h : p.size ≤ s.size) : ends s p = ((s.extract (s.size - p.size) s.size).toList == p.toList) := by
  unfold ends; rw [decide_eq_true h]; rfl
theorem ends_size {s p : ByteArray} (h : ends s p = true) : p.size ≤ s.size := by
  rcases Nat.lt_or_ge s.size p.size with g | g
  · rw [ends_short g] at h; cases h
  · exact g

theorem drop3 (s : ByteArray) (o : Nat) (ho : s.size = o + 3) : (s.extract o s.size).toList = [s[o], s[o + 1], s[o + 2]] := by
  obtain ⟨⟨l⟩⟩ := s
  have hl : l.length = o + 3 := ho
  rw [Lib.extract_toList]
  show (l.drop o).take (l.length - o) = _
  rw [List.take_of_length_le (by simp)]
  rw [List.drop_eq_getElem_cons (by omega), List.drop_eq_getElem_cons (by omega), List.drop_eq_getElem_cons (by omega), List.drop_of_length_le (by omega)]
  rfl
theorem drop1 (s : ByteArray) (o : Nat) (ho : s.size = o + 1) : (s.extract o s.size).toList = [s[o]] := by
  obtain ⟨⟨l⟩⟩ := s
  have hl : l.length = o + 1 := ho
  rw [Lib.extract_toList]
  show (l.drop o).take (l.length - o) = _
  rw [List.take_of_length_le (by simp)]
  rw [List.drop_eq_getElem_cons (by omega), List.drop_of_length_le (by omega)]
  rfl
theorem toList3 (a b c : UInt8) : (ByteArray.mk #[a, b, c]).toList = [a, b, c] := by rw [Lib.toList_data]
theorem toList1 (a : UInt8) : (ByteArray.mk #[a]).toList = [a] := by rw [Lib.toList_data]

theorem ends3 (s : ByteArray) (o : Nat) (ho : s.size = o + 3) (a b c : UInt8) : ends s ⟨#[a, b, c]⟩ = ([s[o], s[o + 1], s[o + 2]] == [a, b, c]) := by
  have h3 : (ByteArray.mk #[a, b, c]).size = 3 := rfl
  rw [ends_long (by omega), toList3, ← drop3 s o ho, h3, show s.size - 3 = o by omega]
theorem ends1 (s : ByteArray) (o : Nat) (ho : s.size = o + 1) (a : UInt8) : ends s ⟨#[a]⟩ = ([s[o]] == [a]) := by
  have h1 : (ByteArray.mk #[a]).size = 1 := rfl
  rw [ends_long (by omega), toList1, ← drop1 s o ho, h1, show s.size - 1 = o by omega]

theorem join {s p : ByteArray} (h : ends s p = true) : s.extract 0 (s.size - p.size) ++ p = s := by
  have hs := ends_size h
  rw [ends_long hs] at h
  have h' := eq_of_beq h
  rw [Lib.extract_toList, Lib.toList_data] at h'
  rw [List.take_of_length_le (by rw [List.length_drop, Lib.size_eq]; omega)] at h'
  apply ByteArray.ext
  rw [ByteArray.data_append]
  apply Array.toList_inj.1
  rw [Array.toList_append, Lib.extract_data, List.drop_zero, ← h', Nat.sub_zero]
  exact List.take_append_drop _ _

/-! ### strings.CutSuffix -/
theorem cut_no (s p : ByteArray) (hs : s.size ≤ maxLen) (hp : p.size ≤ maxLen) (he : ends s p = false) (w : World) :
    Calls Yba.prog 6 #[.string s, .string p] w fun e w' => e = .returned (.tuple #[.string s, .bool false]) ∧ w' = w := by
  unfold maxLen at hs hp
  rcases Nat.lt_or_ge s.size p.size with h | h
  · go_enter Yba.func6, Yba.ntmps6
    go_wp2
    go_ret2
    exact ⟨rfl, rfl⟩
  · rw [ends_long h] at he
    go_enter Yba.func6, Yba.ntmps6
    go_wp2
    go_ret2
    exact ⟨rfl, rfl⟩

theorem cut_yes (s p : ByteArray) (hs : s.size ≤ maxLen) (hp : p.size ≤ maxLen) (he : ends s p = true) (w : World) :
    Calls Yba.prog 6 #[.string s, .string p] w fun e w' => e = .returned (.tuple #[.string (s.extract 0 (s.size - p.size)), .bool true]) ∧ w' = w := by
  unfold maxLen at hs hp
  have h := ends_size he
  rw [ends_long h] at he
  go_enter Yba.func6, Yba.ntmps6
  go_wp2
  go_ret2
  exact ⟨rfl, rfl⟩

/-! ### zzs5683bends at a suffix of three bytes -/
theorem beq3 (x y z a b c : UInt8) : ([x, y, z] == [a, b, c]) = (decide ((x.toNat : Int) = a.toNat) && (decide ((y.toNat : Int) = b.toNat) && decide ((z.toNat : Int) = c.toNat))) := by
  have e : ∀ u v : UInt8, (u == v) = decide ((u.toNat : Int) = v.toNat) := by
    intro u v
    rw [Bool.eq_iff_iff]
    simp only [beq_iff_eq, decide_eq_true_eq]
    exact ⟨fun h => by rw [h], fun h => UInt8.toNat_inj.1 (by omega)⟩
  show (x == a && (y == b && (z == c && true))) = _
  rw [e, e, e, Bool.and_true]

theorem zz_short (s p : ByteArray) (h : s.size < p.size) (w : World) :
    Calls Yba.prog 4 #[.string s, .string p] w fun e w' => e = .returned (.bool (ends s p)) ∧ w' = w := by
  rw [ends_short h]
  go_enter Yba.func4, Yba.ntmps4
  go_wp2
  go_ret
  exact ⟨rfl, rfl⟩

theorem zz_i32_1 (s : ByteArray) (o : Nat) (ho : s.size = o + 3) (hs : s.size ≤ maxLen) (w : World) (h0 : ((s[o].toNat : Int) == 105) = false) :
    Calls Yba.prog 4 #[.string s, .string ⟨#[105, 51, 50]⟩] w fun e w' => e = .returned (.bool false) ∧ Grown w w' := by
  unfold maxLen at hs
  have hm : o + 3 ≤ 9223372036854775807 := by omega
  have hw0 := IntWalk.i64_in (o : Int) (by omega)
  have hb0 : (0 : Int) ≤ (o : Int) := by omega
  have hc0 : (o : Int) < (o : Int) + 3 := by omega
  have hp0 : (ByteArray.mk #[105, 51, 50])[0] = 105 := rfl
  have hp1 : (ByteArray.mk #[105, 51, 50])[1] = 51 := rfl
  have hp2 : (ByteArray.mk #[105, 51, 50])[2] = 50 := rfl
  go_enter Yba.func4, Yba.ntmps4
  go_wp2
  refine wp_loop_rounds 1 ?_; rw [rounds_succ]
  go_wp2
  go_quiet (fail)
  go_wp2
  go_ret
  exact ⟨rfl, Grown.refl w⟩

theorem zz_i32_2 (s : ByteArray) (o : Nat) (ho : s.size = o + 3) (hs : s.size ≤ maxLen) (w : World) (h0 : (s[o].toNat : Int) = 105) (h1 : ((s[o + 1].toNat : Int) == 51) = false) :
    Calls Yba.prog 4 #[.string s, .string ⟨#[105, 51, 50]⟩] w fun e w' => e = .returned (.bool false) ∧ Grown w w' := by
  unfold maxLen at hs
  have hm : o + 3 ≤ 9223372036854775807 := by omega
  have hw0 := IntWalk.i64_in (o : Int) (by omega)
  have hb0 : (0 : Int) ≤ (o : Int) := by omega
  have hc0 : (o : Int) < (o : Int) + 3 := by omega
  have hp0 : (ByteArray.mk #[105, 51, 50])[0] = 105 := rfl
  have hp1 : (ByteArray.mk #[105, 51, 50])[1] = 51 := rfl
  have hp2 : (ByteArray.mk #[105, 51, 50])[2] = 50 := rfl
  have hw1 := IntWalk.i64_in ((o : Int) + 1) (by omega)
  have hb1 : (0 : Int) ≤ (o : Int) + 1 := by omega
  have hc1 : (o : Int) + 1 < (o : Int) + 3 := by omega
  have ht1 : ((o : Int) + 1).toNat = o + 1 := by omega
  go_enter Yba.func4, Yba.ntmps4
  go_wp2
  refine wp_loop_rounds 2 ?_; rw [rounds_succ]
  go_wp2
  go_quiet (fail)
  go_wp2
  rw [rounds_succ]
  go_wp2
  go_quiet (fail)
  go_wp2
  go_ret
  exact ⟨rfl, Grown.refl w⟩

theorem zz_i32_3 (s : ByteArray) (o : Nat) (ho : s.size = o + 3) (hs : s.size ≤ maxLen) (w : World) (h0 : (s[o].toNat : Int) = 105) (h1 : (s[o + 1].toNat : Int) = 51) (h2 : ((s[o + 2].toNat : Int) == 50) = false) :
    Calls Yba.prog 4 #[.string s, .string ⟨#[105, 51, 50]⟩] w fun e w' => e = .returned (.bool false) ∧ Grown w w' := by
  unfold maxLen at hs
  have hm : o + 3 ≤ 9223372036854775807 := by omega
  have hw0 := IntWalk.i64_in (o : Int) (by omega)
  have hb0 : (0 : Int) ≤ (o : Int) := by omega
  have hc0 : (o : Int) < (o : Int) + 3 := by omega
  have hp0 : (ByteArray.mk #[105, 51, 50])[0] = 105 := rfl
  have hp1 : (ByteArray.mk #[105, 51, 50])[1] = 51 := rfl
  have hp2 : (ByteArray.mk #[105, 51, 50])[2] = 50 := rfl
  have hw1 := IntWalk.i64_in ((o : Int) + 1) (by omega)
  have hb1 : (0 : Int) ≤ (o : Int) + 1 := by omega
  have hc1 : (o : Int) + 1 < (o : Int) + 3 := by omega
  have ht1 : ((o : Int) + 1).toNat = o + 1 := by omega
  have hw2 := IntWalk.i64_in ((o : Int) + 2) (by omega)
  have hb2 : (0 : Int) ≤ (o : Int) + 2 := by omega
  have hc2 : (o : Int) + 2 < (o : Int) + 3 := by omega
  have ht2 : ((o : Int) + 2).toNat = o + 2 := by omega
  go_enter Yba.func4, Yba.ntmps4
  go_wp2
  refine wp_loop_rounds 3 ?_; rw [rounds_succ]
  go_wp2
  go_quiet (fail)
  go_wp2
  rw [rounds_succ]
  go_wp2
  go_quiet (fail)
  go_wp2
  rw [rounds_succ]
  go_wp2
  go_quiet (fail)
  go_wp2
  go_ret
  exact ⟨rfl, Grown.refl w⟩

theorem zz_i32_4 (s : ByteArray) (o : Nat) (ho : s.size = o + 3) (hs : s.size ≤ maxLen) (w : World) (h0 : (s[o].toNat : Int) = 105) (h1 : (s[o + 1].toNat : Int) = 51) (h2 : (s[o + 2].toNat : Int) = 50) :
    Calls Yba.prog 4 #[.string s, .string ⟨#[105, 51, 50]⟩] w fun e w' => e = .returned (.bool true) ∧ Grown w w' := by
  unfold maxLen at hs
  have hm : o + 3 ≤ 9223372036854775807 := by omega
  have hw0 := IntWalk.i64_in (o : Int) (by omega)
  have hb0 : (0 : Int) ≤ (o : Int) := by omega
  have hc0 : (o : Int) < (o : Int) + 3 := by omega
  have hp0 : (ByteArray.mk #[105, 51, 50])[0] = 105 := rfl
  have hp1 : (ByteArray.mk #[105, 51, 50])[1] = 51 := rfl
  have hp2 : (ByteArray.mk #[105, 51, 50])[2] = 50 := rfl
  have hw1 := IntWalk.i64_in ((o : Int) + 1) (by omega)
  have hb1 : (0 : Int) ≤ (o : Int) + 1 := by omega
  have hc1 : (o : Int) + 1 < (o : Int) + 3 := by omega
  have ht1 : ((o : Int) + 1).toNat = o + 1 := by omega
  have hw2 := IntWalk.i64_in ((o : Int) + 2) (by omega)
  have hb2 : (0 : Int) ≤ (o : Int) + 2 := by omega
  have hc2 : (o : Int) + 2 < (o : Int) + 3 := by omega
  have ht2 : ((o : Int) + 2).toNat = o + 2 := by omega
  go_enter Yba.func4, Yba.ntmps4
  go_wp2
  refine wp_loop_rounds 4 ?_; rw [rounds_succ]
  go_wp2
  go_quiet (fail)
  go_wp2
  rw [rounds_succ]
  go_wp2
  go_quiet (fail)
  go_wp2
  rw [rounds_succ]
  go_wp2
  go_quiet (fail)
  go_wp2
  rw [rounds_succ]
  go_wp2
  go_ret
  exact ⟨rfl, Grown.refl w⟩

theorem zz_i32 (s : ByteArray) (o : Nat) (ho : s.size = o + 3) (hs : s.size ≤ maxLen) (w : World) :
    Calls Yba.prog 4 #[.string s, .string ⟨#[105, 51, 50]⟩] w fun e w' => e = .returned (.bool (ends s ⟨#[105, 51, 50]⟩)) ∧ Grown w w' := by
  have He : ends s ⟨#[105, 51, 50]⟩ = (decide ((s[o].toNat : Int) = 105) && (decide ((s[o + 1].toNat : Int) = 51) && decide ((s[o + 2].toNat : Int) = 50))) := (ends3 s o ho 105 51 50).trans (beq3 _ _ _ _ _ _)
  rw [He]
  by_cases h0 : (s[o].toNat : Int) = 105
  · by_cases h1 : (s[o + 1].toNat : Int) = 51
    · by_cases h2 : (s[o + 2].toNat : Int) = 50
      · rw [decide_eq_true h0, decide_eq_true h1, decide_eq_true h2]; exact zz_i32_4 s o ho hs w h0 h1 h2
      · rw [decide_eq_true h0, decide_eq_true h1, decide_eq_false h2]; exact zz_i32_3 s o ho hs w h0 h1 (beq_eq_false_iff_ne.2 h2)
    · rw [decide_eq_true h0, decide_eq_false h1]; exact zz_i32_2 s o ho hs w h0 (beq_eq_false_iff_ne.2 h1)
  · rw [decide_eq_false h0]; exact zz_i32_1 s o ho hs w (beq_eq_false_iff_ne.2 h0)

theorem zz_i64_1 (s : ByteArray) (o : Nat) (ho : s.size = o + 3) (hs : s.size ≤ maxLen) (w : World) (h0 : ((s[o].toNat : Int) == 105) = false) :
    Calls Yba.prog 4 #[.string s, .string ⟨#[105, 54, 52]⟩] w fun e w' => e = .returned (.bool false) ∧ Grown w w' := by
  unfold maxLen at hs
  have hm : o + 3 ≤ 9223372036854775807 := by omega
  have hw0 := IntWalk.i64_in (o : Int) (by omega)
  have hb0 : (0 : Int) ≤ (o : Int) := by omega
  have hc0 : (o : Int) < (o : Int) + 3 := by omega
  have hp0 : (ByteArray.mk #[105, 54, 52])[0] = 105 := rfl
  have hp1 : (ByteArray.mk #[105, 54, 52])[1] = 54 := rfl
  have hp2 : (ByteArray.mk #[105, 54, 52])[2] = 52 := rfl
  go_enter Yba.func4, Yba.ntmps4
  go_wp2
  refine wp_loop_rounds 1 ?_; rw [rounds_succ]
  go_wp2
  go_quiet (fail)
  go_wp2
  go_ret
  exact ⟨rfl, Grown.refl w⟩

theorem zz_i64_2 (s : ByteArray) (o : Nat) (ho : s.size = o + 3) (hs : s.size ≤ maxLen) (w : World) (h0 : (s[o].toNat : Int) = 105) (h1 : ((s[o + 1].toNat : Int) == 54) = false) :
    Calls Yba.prog 4 #[.string s, .string ⟨#[105, 54, 52]⟩] w fun e w' => e = .returned (.bool false) ∧ Grown w w' := by
  unfold maxLen at hs
  have hm : o + 3 ≤ 9223372036854775807 := by omega
  have hw0 := IntWalk.i64_in (o : Int) (by omega)
  have hb0 : (0 : Int) ≤ (o : Int) := by omega
  have hc0 : (o : Int) < (o : Int) + 3 := by omega
  have hp0 : (ByteArray.mk #[105, 54, 52])[0] = 105 := rfl
  have hp1 : (ByteArray.mk #[105, 54, 52])[1] = 54 := rfl
  have hp2 : (ByteArray.mk #[105, 54, 52])[2] = 52 := rfl
  have hw1 := IntWalk.i64_in ((o : Int) + 1) (by omega)
  have hb1 : (0 : Int) ≤ (o : Int) + 1 := by omega
  have hc1 : (o : Int) + 1 < (o : Int) + 3 := by omega
  have ht1 : ((o : Int) + 1).toNat = o + 1 := by omega
  go_enter Yba.func4, Yba.ntmps4
  go_wp2
  refine wp_loop_rounds 2 ?_; rw [rounds_succ]
  go_wp2
  go_quiet (fail)
  go_wp2
  rw [rounds_succ]
  go_wp2
  go_quiet (fail)
  go_wp2
  go_ret
  exact ⟨rfl, Grown.refl w⟩

theorem zz_i64_3 (s : ByteArray) (o : Nat) (ho : s.size = o + 3) (hs : s.size ≤ maxLen) (w : World) (h0 : (s[o].toNat : Int) = 105) (h1 : (s[o + 1].toNat : Int) = 54) (h2 : ((s[o + 2].toNat : Int) == 52) = false) :
    Calls Yba.prog 4 #[.string s, .string ⟨#[105, 54, 52]⟩] w fun e w' => e = .returned (.bool false) ∧ Grown w w' := by
  unfold maxLen at hs
  have hm : o + 3 ≤ 9223372036854775807 := by omega
  have hw0 := IntWalk.i64_in (o : Int) (by omega)
  have hb0 : (0 : Int) ≤ (o : Int) := by omega
  have hc0 : (o : Int) < (o : Int) + 3 := by omega
  have hp0 : (ByteArray.mk #[105, 54, 52])[0] = 105 := rfl
  have hp1 : (ByteArray.mk #[105, 54, 52])[1] = 54 := rfl
  have hp2 : (ByteArray.mk #[105, 54, 52])[2] = 52 := rfl
  have hw1 := IntWalk.i64_in ((o : Int) + 1) (by omega)
  have hb1 : (0 : Int) ≤ (o : Int) + 1 := by omega
  have hc1 : (o : Int) + 1 < (o : Int) + 3 := by omega
  have ht1 : ((o : Int) + 1).toNat = o + 1 := by omega
  have hw2 := IntWalk.i64_in ((o : Int) + 2) (by omega)
  have hb2 : (0 : Int) ≤ (o : Int) + 2 := by omega
  have hc2 : (o : Int) + 2 < (o : Int) + 3 := by omega
  have ht2 : ((o : Int) + 2).toNat = o + 2 := by omega
  go_enter Yba.func4, Yba.ntmps4
  go_wp2
  refine wp_loop_rounds 3 ?_; rw [rounds_succ]
  go_wp2
  go_quiet (fail)
  go_wp2
  rw [rounds_succ]
  go_wp2
  go_quiet (fail)
  go_wp2
  rw [rounds_succ]
  go_wp2
  go_quiet (fail)
  go_wp2
  go_ret
  exact ⟨rfl, Grown.refl w⟩

theorem zz_i64_4 (s : ByteArray) (o : Nat) (ho : s.size = o + 3) (hs : s.size ≤ maxLen) (w : World) (h0 : (s[o].toNat : Int) = 105) (h1 : (s[o + 1].toNat : Int) = 54) (h2 : (s[o + 2].toNat : Int) = 52) :
    Calls Yba.prog 4 #[.string s, .string ⟨#[105, 54, 52]⟩] w fun e w' => e = .returned (.bool true) ∧ Grown w w' := by
  unfold maxLen at hs
  have hm : o + 3 ≤ 9223372036854775807 := by omega
  have hw0 := IntWalk.i64_in (o : Int) (by omega)
  have hb0 : (0 : Int) ≤ (o : Int) := by omega
  have hc0 : (o : Int) < (o : Int) + 3 := by omega
  have hp0 : (ByteArray.mk #[105, 54, 52])[0] = 105 := rfl
  have hp1 : (ByteArray.mk #[105, 54, 52])[1] = 54 := rfl
  have hp2 : (ByteArray.mk #[105, 54, 52])[2] = 52 := rfl
  have hw1 := IntWalk.i64_in ((o : Int) + 1) (by omega)
  have hb1 : (0 : Int) ≤ (o : Int) + 1 := by omega
  have hc1 : (o : Int) + 1 < (o : Int) + 3 := by omega
  have ht1 : ((o : Int) + 1).toNat = o + 1 := by omega
  have hw2 := IntWalk.i64_in ((o : Int) + 2) (by omega)
  have hb2 : (0 : Int) ≤ (o : Int) + 2 := by omega
  have hc2 : (o : Int) + 2 < (o : Int) + 3 := by omega
  have ht2 : ((o : Int) + 2).toNat = o + 2 := by omega
  go_enter Yba.func4, Yba.ntmps4
  go_wp2
  refine wp_loop_rounds 4 ?_; rw [rounds_succ]
  go_wp2
  go_quiet (fail)
  go_wp2
  rw [rounds_succ]
  go_wp2
  go_quiet (fail)
  go_wp2
  rw [rounds_succ]
  go_wp2
  go_quiet (fail)
  go_wp2
  rw [rounds_succ]
  go_wp2
  go_ret
  exact ⟨rfl, Grown.refl w⟩

theorem zz_i64 (s : ByteArray) (o : Nat) (ho : s.size = o + 3) (hs : s.size ≤ maxLen) (w : World) :
    Calls Yba.prog 4 #[.string s, .string ⟨#[105, 54, 52]⟩] w fun e w' => e = .returned (.bool (ends s ⟨#[105, 54, 52]⟩)) ∧ Grown w w' := by
  have He : ends s ⟨#[105, 54, 52]⟩ = (decide ((s[o].toNat : Int) = 105) && (decide ((s[o + 1].toNat : Int) = 54) && decide ((s[o + 2].toNat : Int) = 52))) := (ends3 s o ho 105 54 52).trans (beq3 _ _ _ _ _ _)
  rw [He]
  by_cases h0 : (s[o].toNat : Int) = 105
  · by_cases h1 : (s[o + 1].toNat : Int) = 54
    · by_cases h2 : (s[o + 2].toNat : Int) = 52
      · rw [decide_eq_true h0, decide_eq_true h1, decide_eq_true h2]; exact zz_i64_4 s o ho hs w h0 h1 h2
      · rw [decide_eq_true h0, decide_eq_true h1, decide_eq_false h2]; exact zz_i64_3 s o ho hs w h0 h1 (beq_eq_false_iff_ne.2 h2)
    · rw [decide_eq_true h0, decide_eq_false h1]; exact zz_i64_2 s o ho hs w h0 (beq_eq_false_iff_ne.2 h1)
  · rw [decide_eq_false h0]; exact zz_i64_1 s o ho hs w (beq_eq_false_iff_ne.2 h0)

end Go.Proofs.Ybulkdmrc
