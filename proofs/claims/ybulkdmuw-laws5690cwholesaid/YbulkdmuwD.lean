import Derived.Test.YbulkdmuwC
namespace Go.Proofs.Ybulkdmuw
open Go.ChangeShapes Go.WideShapes Go.ChangeAt Go.RowKit
set_option linter.unusedVariables false

theorem grown_trans {a b c : World} (h : Grown a b) (k : Grown b c) : Grown a c :=
  ⟨World.keptBut_trans h.1 k.1, fun x => (k.2.1 x).trans (h.2.1 x), Nat.le_trans h.2.2 k.2.2⟩

/-! ### The sizes of the three sub-tables -/
/-- ceil((c - j) / 3), as Go's wrapping, truncating arithmetic reads it. -/
def sz (c j : Int) : Int := wrap64 ((wrap64 (c - j + 2)).tdiv 3)

theorem wrap_bd (x : Int) : -9223372036854775808 ≤ wrap64 x ∧ wrap64 x ≤ 9223372036854775807 := by unfold wrap64; omega
theorem wrap_wrap (x : Int) : wrap64 (wrap64 x) = wrap64 x := by unfold wrap64; omega
theorem wrap_eq3 (x : Int) : wrap64 (wrap64 (wrap64 x + 3) - 1) = wrap64 (x + 2) := by unfold wrap64; omega
theorem wrap_eq2 (x : Int) : wrap64 (wrap64 x + 2) = wrap64 (x + 2) := by unfold wrap64; omega
theorem sz0 (c : Int) : wrap64 ((wrap64 (wrap64 (wrap64 c + 3) - 1)).tdiv 3) = sz c 0 := by rw [wrap_eq3]; unfold sz; rw [Int.sub_zero]
theorem sz1 (c : Int) : wrap64 ((wrap64 (wrap64 (wrap64 (c - 1) + 3) - 1)).tdiv 3) = sz c 1 := by rw [wrap_eq3]; rfl
theorem sz2 (c : Int) : wrap64 ((wrap64 (wrap64 (wrap64 (c - 2) + 3) - 1)).tdiv 3) = sz c 2 := by rw [wrap_eq3]; rfl
theorem sz_wrap (c j : Int) : wrap64 (sz c j) = sz c j := wrap_wrap _

set_option maxHeartbeats 400000 in
theorem sub_any (c : Int) (w : World) :
    Calls Yba.prog 12 #[.int .i64 c] w fun e w' => e = .returned (.tuple #[.agg #[.int .i64 0, .int .i64 (sz c 0), .int .i64 (wrap64 (sz c 0 + sz c 1))], .agg #[.int .i64 (sz c 0), .int .i64 (sz c 1), .int .i64 (sz c 2)]]) ∧ w' = ((w.alloc (.cells #[.int .i64 0, .int .i64 (sz c 0), .int .i64 (wrap64 (sz c 0 + sz c 1))] 30)).alloc (.cells #[.int .i64 (sz c 0), .int .i64 (sz c 1), .int .i64 (sz c 2)] 30)).drew := by
  have H0 : Hid _ := sz0 c
  have H1 : Hid _ := sz1 c
  have H2 : Hid _ := sz2 c
  have HW : Hid _ := sz_wrap c 0
  go_enter Yba.func12, Yba.ntmps12
  go_wp2
  refine wp_loop_rounds 4 ?_; rw [rounds_succ]
  go_wp2
  rw [rounds_succ]
  go_wp2
  rw [rounds_succ]
  go_wp2
  rw [rounds_succ]
  go_wp2
  go_region
  go_wp2
  simp only [H0.out, H1.out, H2.out, HW.out]
  refine bodyPost_ret (v := .tuple #[.agg #[.int .i64 0, .int .i64 (sz c 0), .int .i64 (wrap64 (sz c 0 + sz c 1))], .agg #[.int .i64 (sz c 0), .int .i64 (sz c 1), .int .i64 (sz c 2)]]) (by simp [results, Yba.results12, go_sem]) rfl ⟨rfl, rfl⟩

theorem md0 (c : Int) : wrap64 ((wrap64 (wrap64 c + 2)).tdiv 3) = sz c 0 := by rw [wrap_eq2]; unfold sz; rw [Int.sub_zero]
theorem md1 (c : Int) : wrap64 ((wrap64 (wrap64 (c - 1) + 2)).tdiv 3) = sz c 1 := by rw [wrap_eq2]; rfl
theorem md2 (c : Int) : wrap64 ((wrap64 (wrap64 (c - 2) + 2)).tdiv 3) = sz c 2 := by rw [wrap_eq2]; rfl

set_option maxHeartbeats 400000 in
theorem model_b (c : Int) (w : World) (hc : c < 0 ∨ (0 ≤ c ∧ decide (c ≤ 9223372036854775805) = false)) :
    Calls Yba.prog 9 #[.int .i64 c] w fun e w' => e = .returned (.agg #[.int .i64 (sz c 0), .int .i64 (sz c 1), .int .i64 (sz c 2)]) ∧ w' = (w.alloc (.cells #[.int .i64 (sz c 0), .int .i64 (sz c 1), .int .i64 (sz c 2)] 30)).alloc (.cells #[.int .i64 (sz c 0), .int .i64 (sz c 1), .int .i64 (sz c 2)] 30) := by
  have H0 : Hid _ := md0 c
  have H1 : Hid _ := md1 c
  have H2 : Hid _ := md2 c
  rcases hc with hc | ⟨hc, hc'⟩
  all_goals
    go_enter Yba.func9, Yba.ntmps9
    go_wp2
    refine wp_loop_rounds 4 ?_; rw [rounds_succ]
    go_wp2
    rw [rounds_succ]
    go_wp2
    rw [rounds_succ]
    go_wp2
    rw [rounds_succ]
    go_wp2
    simp only [H0.out, H1.out, H2.out]
    refine bodyPost_ret (v := .agg #[.int .i64 (sz c 0), .int .i64 (sz c 1), .int .i64 (sz c 2)]) (by simp [results, Yba.results9, go_sem]) rfl ⟨rfl, rfl⟩

theorem sz_fine (c j : Int) (h0 : 0 ≤ c) (h1 : c ≤ 9223372036854775805) (hj : 0 ≤ j) (hj2 : j ≤ 2) : sz c j = (c - j + 2) / 3 := by
  unfold sz
  have e : wrap64 (c - j + 2) = c - j + 2 := IntWalk.wrap64_in _ (by omega)
  rw [e, Int.tdiv_eq_ediv_of_nonneg (by omega)]
  exact IntWalk.wrap64_in _ (by omega)

set_option maxHeartbeats 400000 in
theorem model_a (c : Int) (w : World) (h0 : 0 ≤ c) (h1 : c ≤ 9223372036854775805) (r : Int) (hr : c % 3 = r) (hr3 : r = 0 ∨ r = 1 ∨ r = 2) (q : Int) (hq : c / 3 = q) (hq0 : 0 ≤ q) (hq1 : q ≤ 9223372036854775805) :
    Calls Yba.prog 9 #[.int .i64 c] w fun e w' => e = .returned (.agg #[.int .i64 (q + if 0 < r then 1 else 0), .int .i64 (q + if 1 < r then 1 else 0), .int .i64 q]) ∧ w' = (w.alloc (.cells #[.int .i64 (q + if 0 < r then 1 else 0), .int .i64 (q + if 1 < r then 1 else 0), .int .i64 q] 30)).alloc (.cells #[.int .i64 (q + if 0 < r then 1 else 0), .int .i64 (q + if 1 < r then 1 else 0), .int .i64 q] 30) := by
  rcases hr3 with rfl | rfl | rfl
  all_goals
    go_enter Yba.func9, Yba.ntmps9
    go_wp2
    refine wp_loop_rounds 4 ?_; rw [rounds_succ]
    go_wp2
    rw [rounds_succ]
    go_wp2
    rw [rounds_succ]
    go_wp2
    rw [rounds_succ]
    go_wp2
  · exact bodyPost_ret (v := .agg #[.int .i64 q, .int .i64 q, .int .i64 q]) (by simp [results, Yba.results9, go_sem]) rfl ⟨by simp, by simp⟩
  · exact bodyPost_ret (v := .agg #[.int .i64 (q + 1), .int .i64 q, .int .i64 q]) (by simp [results, Yba.results9, go_sem]) rfl ⟨by simp, by simp⟩
  · exact bodyPost_ret (v := .agg #[.int .i64 (q + 1), .int .i64 (q + 1), .int .i64 q]) (by simp [results, Yba.results9, go_sem]) rfl ⟨by simp, by simp⟩

/-- zzs5690csizes: the three sizes, at every count. -/
theorem model_any (c : Int) (w : World) :
    Calls Yba.prog 9 #[.int .i64 c] w fun e w' => e = .returned (.agg #[.int .i64 (sz c 0), .int .i64 (sz c 1), .int .i64 (sz c 2)]) ∧ w' = (w.alloc (.cells #[.int .i64 (sz c 0), .int .i64 (sz c 1), .int .i64 (sz c 2)] 30)).alloc (.cells #[.int .i64 (sz c 0), .int .i64 (sz c 1), .int .i64 (sz c 2)] 30) := by
  by_cases h0 : 0 ≤ c
  · by_cases h1 : c ≤ 9223372036854775805
    · have := model_a c w h0 h1 (c % 3) rfl (by omega) (c / 3) rfl (by omega) (by omega)
      have e0 : (c / 3 + if 0 < c % 3 then 1 else 0) = sz c 0 := by rw [sz_fine c 0 h0 h1 (by omega) (by omega)]; split <;> omega
      have e1 : (c / 3 + if 1 < c % 3 then 1 else 0) = sz c 1 := by rw [sz_fine c 1 h0 h1 (by omega) (by omega)]; split <;> omega
      have e2 : c / 3 = sz c 2 := by rw [sz_fine c 2 h0 h1 (by omega) (by omega)]; omega
      rw [e0, e1, e2] at this
      exact this
    · exact model_b c w (.inr ⟨h0, by simp; omega⟩)
  · exact model_b c w (.inl (by omega))
end Go.Proofs.Ybulkdmuw
