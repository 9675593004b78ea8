import Derived.Test.YbulkdmoyRow
namespace Go.Proofs.Ybulkdmoy
open Go.ChangeShapes Go.WideShapes Go.ChangeAt Go.RowKit Go.WideMaps Go.Maps
set_option linter.unusedVariables false

/-! ### newMemberTable -/
theorem mm_run (m : Int) (W : World) : (Instr.makeMap 26 (some (.int .i64 m))).run Yba.prog W = .ok (.map (some W.heap.size)) (W.alloc (.map #[] 0)) := by kernel_rfl
theorem mk_run (t e : TypeId) (i0 : TypeInfo) (z : Value) (size bytes : Nat) (ht : Yba.prog.underlying t = some (.slice e)) (hi : Yba.prog.info? e = some i0) (hz : i0.zero = some z) (h1 : i0.size = size) (h2 : i0.bytes = bytes) (m : Nat) (hm : m ≤ 64) (hb : bytes ≤ 64) :
    ∃ M : Array Value, M.size = m * size ∧ ∀ W : World, (Instr.makeSlice t (.int .i64 0) (.int .i64 (m : Int))).run Yba.prog W = .ok (.slice (some ⟨W.heap.size, 0, none⟩) 0 m) (W.alloc (.cells M e)) := by
  refine ⟨madeCells z.cells (((m : Nat) : Int).toNat * i0.size), by rw [size_madeCells, h1]; simp, fun W => ?_⟩
  have hbb : (bytes : Int) * (m : Int) ≤ 64 * 64 := by
    have : bytes * m ≤ 64 * 64 := Nat.mul_le_mul hb hm
    have h : ((bytes * m : Nat) : Int) ≤ ((64 * 64 : Nat) : Int) := by omega
    rw [Int.natCast_mul] at h
    exact h
  have h := run_make (P := Yba.prog) W t e i0 z ht hi hz .i64 .i64 0 (m : Int) (by omega) (by omega) (by rw [h2]; omega) (by omega)
  simpa using h

theorem h5 (w : World) (R a b c d : Obj) : (((((w.alloc R).alloc a).alloc b).alloc c).alloc d).heap[w.heap.size + 1]? = some a ∧ (((((w.alloc R).alloc a).alloc b).alloc c).alloc d).heap[w.heap.size + 1 + 1]? = some b ∧
    (((((w.alloc R).alloc a).alloc b).alloc c).alloc d).heap[w.heap.size + 1 + 1 + 1]? = some c ∧ (((((w.alloc R).alloc a).alloc b).alloc c).alloc d).heap[w.heap.size + 1 + 1 + 1 + 1]? = some d := by
  have e1 : (w.alloc R).heap.size = w.heap.size + 1 := World.size_alloc ..
  have e2 : ((w.alloc R).alloc a).heap.size = w.heap.size + 1 + 1 := by rw [World.size_alloc, e1]
  have e3 : (((w.alloc R).alloc a).alloc b).heap.size = w.heap.size + 1 + 1 + 1 := by rw [World.size_alloc, e2]
  have e4 : ((((w.alloc R).alloc a).alloc b).alloc c).heap.size = w.heap.size + 1 + 1 + 1 + 1 := by rw [World.size_alloc, e3]
  refine ⟨?_, ?_, ?_, ?_⟩
  · rw [Below.heap_alloc _ _ _ (by omega), Below.heap_alloc _ _ _ (by omega), Below.heap_alloc _ _ _ (by omega), ← e1]; exact heap_alloc_new _ _
  · rw [Below.heap_alloc _ _ _ (by omega), Below.heap_alloc _ _ _ (by omega), ← e2]; exact heap_alloc_new _ _
  · rw [Below.heap_alloc _ _ _ (by omega), ← e3]; exact heap_alloc_new _ _
  · rw [← e4]; exact heap_alloc_new _ _

theorem map_of {X : World} {b : Nat} (h : X.heap[b]? = some (.map #[] 0)) : MapIs X b [] := by
  obtain ⟨D, ⟨es, clock, h1, h2, h3, h4⟩, h5⟩ := MapIs.made X
  rw [heap_alloc_new X _] at h1
  cases h1
  exact ⟨D, ⟨#[], 0, h, h2, h3, h4⟩, h5⟩
theorem row_of {X : World} {B b m size : Nat} {e : TypeId} {M : Array Value} (h : X.heap[b]? = some (.cells M e (0, 0))) (hb : B ≤ b) (hm : m ≤ 64) (hM : M.size = m * size) : X.ownsRow B e size (.slice (some ⟨b, 0, none⟩) 0 m) 0 [] :=
  ⟨by simp, .inr ⟨b, m, M, rfl, hb, h, Nat.zero_le _, by unfold maxLen; omega, hM, by simp⟩⟩
theorem below5 (w : World) (R a b c d : Obj) : Below w.heap.size w (((((w.alloc R).alloc a).alloc b).alloc c).alloc d) :=
  (((((Below.refl _ w).alloc (Nat.le_refl _) R).alloc (by simp) a).alloc (by simp; omega) b).alloc (by simp; omega) c).alloc (by simp; omega) d

set_option maxHeartbeats 4000000 in
theorem new_any (B m : Nat) (hm : m ≤ 64) (w : World) (hB : B ≤ w.heap.size) :
    Calls Yba.prog 4 #[.int .i64 (m : Int)] w fun e w' => ∃ bm gs gt gy : Nat, e = .returned (.agg #[.map (some bm), .slice (some ⟨gs, 0, none⟩) 0 m, .slice (some ⟨gt, 0, none⟩) 0 m, .slice (some ⟨gy, 0, none⟩) 0 m]) ∧
      MapIs w' bm [] ∧ w'.ownsRow B 43 4 (.slice (some ⟨gs, 0, none⟩) 0 m) 0 [] ∧ w'.ownsRow B 3 1 (.slice (some ⟨gt, 0, none⟩) 0 m) 0 [] ∧ Below w.heap.size w w' ∧ B ≤ bm := by
  have hmm := mm_run (m : Int)
  obtain ⟨i0, hi, hz0, hz1, hz2⟩ := info_parts info43
  obtain ⟨M, hM, hmk⟩ := mk_run 27 43 i0 _ 4 40 Yba.underlying27 hi hz0 hz1 hz2 m hm (by omega)
  clear hi hz0 hz1 hz2 i0
  obtain ⟨i0, hi, hz0, hz1, hz2⟩ := info_parts info3
  obtain ⟨N, hN, hnk⟩ := mk_run 28 3 i0 _ 1 8 Yba.underlying28 hi hz0 hz1 hz2 m hm (by omega)
  clear hi hz0 hz1 hz2 i0
  have HM : Hid (M.size = m * 4) := hM
  have HN : Hid (N.size = m * 1) := hN
  clear hM hN
  go_enter Yba.func4, Yba.ntmps4
  go_wp2
  go_region
  · go_wp2
    exact bodyPost_ret (v := .agg #[.map (some (w.heap.size + 1)), .slice (some ⟨w.heap.size + 1 + 1, 0, none⟩) 0 m, .slice (some ⟨w.heap.size + 1 + 1 + 1, 0, none⟩) 0 m, .slice (some ⟨w.heap.size + 1 + 1 + 1 + 1, 0, none⟩) 0 m]) (by simp [results, Yba.results4, go_sem]) rfl ⟨_, _, _, _, rfl, map_of (h5 w _ _ _ _ _).1, row_of (h5 w _ _ _ _ _).2.1 (by omega) hm HM.out, row_of (h5 w _ _ _ _ _).2.2.1 (by omega) hm HN.out, (below5 w _ _ _ _ _).drew, by omega⟩
  · go_wp2
    exact bodyPost_ret (v := .agg #[.map (some (w.heap.size + 1)), .slice (some ⟨w.heap.size + 1 + 1, 0, none⟩) 0 m, .slice (some ⟨w.heap.size + 1 + 1 + 1 + 1, 0, none⟩) 0 m, .slice (some ⟨w.heap.size + 1 + 1 + 1, 0, none⟩) 0 m]) (by simp [results, Yba.results4, go_sem]) rfl ⟨_, _, _, _, rfl, map_of (h5 w _ _ _ _ _).1, row_of (h5 w _ _ _ _ _).2.1 (by omega) hm HM.out, row_of (h5 w _ _ _ _ _).2.2.2 (by omega) hm HN.out, (below5 w _ _ _ _ _).drew, by omega⟩
  · go_wp2
    exact bodyPost_ret (v := .agg #[.map (some (w.heap.size + 1)), .slice (some ⟨w.heap.size + 1 + 1 + 1, 0, none⟩) 0 m, .slice (some ⟨w.heap.size + 1 + 1, 0, none⟩) 0 m, .slice (some ⟨w.heap.size + 1 + 1 + 1 + 1, 0, none⟩) 0 m]) (by simp [results, Yba.results4, go_sem]) rfl ⟨_, _, _, _, rfl, map_of (h5 w _ _ _ _ _).1, row_of (h5 w _ _ _ _ _).2.2.1 (by omega) hm HM.out, row_of (h5 w _ _ _ _ _).2.1 (by omega) hm HN.out, (below5 w _ _ _ _ _).drew, by omega⟩
  · go_wp2
    exact bodyPost_ret (v := .agg #[.map (some (w.heap.size + 1)), .slice (some ⟨w.heap.size + 1 + 1 + 1 + 1, 0, none⟩) 0 m, .slice (some ⟨w.heap.size + 1 + 1, 0, none⟩) 0 m, .slice (some ⟨w.heap.size + 1 + 1 + 1, 0, none⟩) 0 m]) (by simp [results, Yba.results4, go_sem]) rfl ⟨_, _, _, _, rfl, map_of (h5 w _ _ _ _ _).1, row_of (h5 w _ _ _ _ _).2.2.2 (by omega) hm HM.out, row_of (h5 w _ _ _ _ _).2.1 (by omega) hm HN.out, (below5 w _ _ _ _ _).drew, by omega⟩
  · go_wp2
    exact bodyPost_ret (v := .agg #[.map (some (w.heap.size + 1)), .slice (some ⟨w.heap.size + 1 + 1 + 1, 0, none⟩) 0 m, .slice (some ⟨w.heap.size + 1 + 1 + 1 + 1, 0, none⟩) 0 m, .slice (some ⟨w.heap.size + 1 + 1, 0, none⟩) 0 m]) (by simp [results, Yba.results4, go_sem]) rfl ⟨_, _, _, _, rfl, map_of (h5 w _ _ _ _ _).1, row_of (h5 w _ _ _ _ _).2.2.1 (by omega) hm HM.out, row_of (h5 w _ _ _ _ _).2.2.2 (by omega) hm HN.out, (below5 w _ _ _ _ _).drew, by omega⟩
  · go_wp2
    exact bodyPost_ret (v := .agg #[.map (some (w.heap.size + 1)), .slice (some ⟨w.heap.size + 1 + 1 + 1 + 1, 0, none⟩) 0 m, .slice (some ⟨w.heap.size + 1 + 1 + 1, 0, none⟩) 0 m, .slice (some ⟨w.heap.size + 1 + 1, 0, none⟩) 0 m]) (by simp [results, Yba.results4, go_sem]) rfl ⟨_, _, _, _, rfl, map_of (h5 w _ _ _ _ _).1, row_of (h5 w _ _ _ _ _).2.2.2 (by omega) hm HM.out, row_of (h5 w _ _ _ _ _).2.2.1 (by omega) hm HN.out, (below5 w _ _ _ _ _).drew, by omega⟩
  · go_wp2
    exact bodyPost_ret (v := .agg #[.map (some (w.heap.size + 1 + 1)), .slice (some ⟨w.heap.size + 1, 0, none⟩) 0 m, .slice (some ⟨w.heap.size + 1 + 1 + 1, 0, none⟩) 0 m, .slice (some ⟨w.heap.size + 1 + 1 + 1 + 1, 0, none⟩) 0 m]) (by simp [results, Yba.results4, go_sem]) rfl ⟨_, _, _, _, rfl, map_of (h5 w _ _ _ _ _).2.1, row_of (h5 w _ _ _ _ _).1 (by omega) hm HM.out, row_of (h5 w _ _ _ _ _).2.2.1 (by omega) hm HN.out, (below5 w _ _ _ _ _).drew, by omega⟩
  · go_wp2
    exact bodyPost_ret (v := .agg #[.map (some (w.heap.size + 1 + 1)), .slice (some ⟨w.heap.size + 1, 0, none⟩) 0 m, .slice (some ⟨w.heap.size + 1 + 1 + 1 + 1, 0, none⟩) 0 m, .slice (some ⟨w.heap.size + 1 + 1 + 1, 0, none⟩) 0 m]) (by simp [results, Yba.results4, go_sem]) rfl ⟨_, _, _, _, rfl, map_of (h5 w _ _ _ _ _).2.1, row_of (h5 w _ _ _ _ _).1 (by omega) hm HM.out, row_of (h5 w _ _ _ _ _).2.2.2 (by omega) hm HN.out, (below5 w _ _ _ _ _).drew, by omega⟩
  · go_wp2
    exact bodyPost_ret (v := .agg #[.map (some (w.heap.size + 1 + 1 + 1)), .slice (some ⟨w.heap.size + 1, 0, none⟩) 0 m, .slice (some ⟨w.heap.size + 1 + 1, 0, none⟩) 0 m, .slice (some ⟨w.heap.size + 1 + 1 + 1 + 1, 0, none⟩) 0 m]) (by simp [results, Yba.results4, go_sem]) rfl ⟨_, _, _, _, rfl, map_of (h5 w _ _ _ _ _).2.2.1, row_of (h5 w _ _ _ _ _).1 (by omega) hm HM.out, row_of (h5 w _ _ _ _ _).2.1 (by omega) hm HN.out, (below5 w _ _ _ _ _).drew, by omega⟩
  · go_wp2
    exact bodyPost_ret (v := .agg #[.map (some (w.heap.size + 1 + 1 + 1 + 1)), .slice (some ⟨w.heap.size + 1, 0, none⟩) 0 m, .slice (some ⟨w.heap.size + 1 + 1, 0, none⟩) 0 m, .slice (some ⟨w.heap.size + 1 + 1 + 1, 0, none⟩) 0 m]) (by simp [results, Yba.results4, go_sem]) rfl ⟨_, _, _, _, rfl, map_of (h5 w _ _ _ _ _).2.2.2, row_of (h5 w _ _ _ _ _).1 (by omega) hm HM.out, row_of (h5 w _ _ _ _ _).2.1 (by omega) hm HN.out, (below5 w _ _ _ _ _).drew, by omega⟩
  · go_wp2
    exact bodyPost_ret (v := .agg #[.map (some (w.heap.size + 1 + 1 + 1)), .slice (some ⟨w.heap.size + 1, 0, none⟩) 0 m, .slice (some ⟨w.heap.size + 1 + 1 + 1 + 1, 0, none⟩) 0 m, .slice (some ⟨w.heap.size + 1 + 1, 0, none⟩) 0 m]) (by simp [results, Yba.results4, go_sem]) rfl ⟨_, _, _, _, rfl, map_of (h5 w _ _ _ _ _).2.2.1, row_of (h5 w _ _ _ _ _).1 (by omega) hm HM.out, row_of (h5 w _ _ _ _ _).2.2.2 (by omega) hm HN.out, (below5 w _ _ _ _ _).drew, by omega⟩
  · go_wp2
    exact bodyPost_ret (v := .agg #[.map (some (w.heap.size + 1 + 1 + 1 + 1)), .slice (some ⟨w.heap.size + 1, 0, none⟩) 0 m, .slice (some ⟨w.heap.size + 1 + 1 + 1, 0, none⟩) 0 m, .slice (some ⟨w.heap.size + 1 + 1, 0, none⟩) 0 m]) (by simp [results, Yba.results4, go_sem]) rfl ⟨_, _, _, _, rfl, map_of (h5 w _ _ _ _ _).2.2.2, row_of (h5 w _ _ _ _ _).1 (by omega) hm HM.out, row_of (h5 w _ _ _ _ _).2.2.1 (by omega) hm HN.out, (below5 w _ _ _ _ _).drew, by omega⟩
  · go_wp2
    exact bodyPost_ret (v := .agg #[.map (some (w.heap.size + 1 + 1)), .slice (some ⟨w.heap.size + 1 + 1 + 1, 0, none⟩) 0 m, .slice (some ⟨w.heap.size + 1, 0, none⟩) 0 m, .slice (some ⟨w.heap.size + 1 + 1 + 1 + 1, 0, none⟩) 0 m]) (by simp [results, Yba.results4, go_sem]) rfl ⟨_, _, _, _, rfl, map_of (h5 w _ _ _ _ _).2.1, row_of (h5 w _ _ _ _ _).2.2.1 (by omega) hm HM.out, row_of (h5 w _ _ _ _ _).1 (by omega) hm HN.out, (below5 w _ _ _ _ _).drew, by omega⟩
  · go_wp2
    exact bodyPost_ret (v := .agg #[.map (some (w.heap.size + 1 + 1)), .slice (some ⟨w.heap.size + 1 + 1 + 1 + 1, 0, none⟩) 0 m, .slice (some ⟨w.heap.size + 1, 0, none⟩) 0 m, .slice (some ⟨w.heap.size + 1 + 1 + 1, 0, none⟩) 0 m]) (by simp [results, Yba.results4, go_sem]) rfl ⟨_, _, _, _, rfl, map_of (h5 w _ _ _ _ _).2.1, row_of (h5 w _ _ _ _ _).2.2.2 (by omega) hm HM.out, row_of (h5 w _ _ _ _ _).1 (by omega) hm HN.out, (below5 w _ _ _ _ _).drew, by omega⟩
  · go_wp2
    exact bodyPost_ret (v := .agg #[.map (some (w.heap.size + 1 + 1 + 1)), .slice (some ⟨w.heap.size + 1 + 1, 0, none⟩) 0 m, .slice (some ⟨w.heap.size + 1, 0, none⟩) 0 m, .slice (some ⟨w.heap.size + 1 + 1 + 1 + 1, 0, none⟩) 0 m]) (by simp [results, Yba.results4, go_sem]) rfl ⟨_, _, _, _, rfl, map_of (h5 w _ _ _ _ _).2.2.1, row_of (h5 w _ _ _ _ _).2.1 (by omega) hm HM.out, row_of (h5 w _ _ _ _ _).1 (by omega) hm HN.out, (below5 w _ _ _ _ _).drew, by omega⟩
  · go_wp2
    exact bodyPost_ret (v := .agg #[.map (some (w.heap.size + 1 + 1 + 1 + 1)), .slice (some ⟨w.heap.size + 1 + 1, 0, none⟩) 0 m, .slice (some ⟨w.heap.size + 1, 0, none⟩) 0 m, .slice (some ⟨w.heap.size + 1 + 1 + 1, 0, none⟩) 0 m]) (by simp [results, Yba.results4, go_sem]) rfl ⟨_, _, _, _, rfl, map_of (h5 w _ _ _ _ _).2.2.2, row_of (h5 w _ _ _ _ _).2.1 (by omega) hm HM.out, row_of (h5 w _ _ _ _ _).1 (by omega) hm HN.out, (below5 w _ _ _ _ _).drew, by omega⟩
  · go_wp2
    exact bodyPost_ret (v := .agg #[.map (some (w.heap.size + 1 + 1 + 1)), .slice (some ⟨w.heap.size + 1 + 1 + 1 + 1, 0, none⟩) 0 m, .slice (some ⟨w.heap.size + 1, 0, none⟩) 0 m, .slice (some ⟨w.heap.size + 1 + 1, 0, none⟩) 0 m]) (by simp [results, Yba.results4, go_sem]) rfl ⟨_, _, _, _, rfl, map_of (h5 w _ _ _ _ _).2.2.1, row_of (h5 w _ _ _ _ _).2.2.2 (by omega) hm HM.out, row_of (h5 w _ _ _ _ _).1 (by omega) hm HN.out, (below5 w _ _ _ _ _).drew, by omega⟩
  · go_wp2
    exact bodyPost_ret (v := .agg #[.map (some (w.heap.size + 1 + 1 + 1 + 1)), .slice (some ⟨w.heap.size + 1 + 1 + 1, 0, none⟩) 0 m, .slice (some ⟨w.heap.size + 1, 0, none⟩) 0 m, .slice (some ⟨w.heap.size + 1 + 1, 0, none⟩) 0 m]) (by simp [results, Yba.results4, go_sem]) rfl ⟨_, _, _, _, rfl, map_of (h5 w _ _ _ _ _).2.2.2, row_of (h5 w _ _ _ _ _).2.2.1 (by omega) hm HM.out, row_of (h5 w _ _ _ _ _).1 (by omega) hm HN.out, (below5 w _ _ _ _ _).drew, by omega⟩
  · go_wp2
    exact bodyPost_ret (v := .agg #[.map (some (w.heap.size + 1 + 1)), .slice (some ⟨w.heap.size + 1 + 1 + 1, 0, none⟩) 0 m, .slice (some ⟨w.heap.size + 1 + 1 + 1 + 1, 0, none⟩) 0 m, .slice (some ⟨w.heap.size + 1, 0, none⟩) 0 m]) (by simp [results, Yba.results4, go_sem]) rfl ⟨_, _, _, _, rfl, map_of (h5 w _ _ _ _ _).2.1, row_of (h5 w _ _ _ _ _).2.2.1 (by omega) hm HM.out, row_of (h5 w _ _ _ _ _).2.2.2 (by omega) hm HN.out, (below5 w _ _ _ _ _).drew, by omega⟩
  · go_wp2
    exact bodyPost_ret (v := .agg #[.map (some (w.heap.size + 1 + 1)), .slice (some ⟨w.heap.size + 1 + 1 + 1 + 1, 0, none⟩) 0 m, .slice (some ⟨w.heap.size + 1 + 1 + 1, 0, none⟩) 0 m, .slice (some ⟨w.heap.size + 1, 0, none⟩) 0 m]) (by simp [results, Yba.results4, go_sem]) rfl ⟨_, _, _, _, rfl, map_of (h5 w _ _ _ _ _).2.1, row_of (h5 w _ _ _ _ _).2.2.2 (by omega) hm HM.out, row_of (h5 w _ _ _ _ _).2.2.1 (by omega) hm HN.out, (below5 w _ _ _ _ _).drew, by omega⟩
  · go_wp2
    exact bodyPost_ret (v := .agg #[.map (some (w.heap.size + 1 + 1 + 1)), .slice (some ⟨w.heap.size + 1 + 1, 0, none⟩) 0 m, .slice (some ⟨w.heap.size + 1 + 1 + 1 + 1, 0, none⟩) 0 m, .slice (some ⟨w.heap.size + 1, 0, none⟩) 0 m]) (by simp [results, Yba.results4, go_sem]) rfl ⟨_, _, _, _, rfl, map_of (h5 w _ _ _ _ _).2.2.1, row_of (h5 w _ _ _ _ _).2.1 (by omega) hm HM.out, row_of (h5 w _ _ _ _ _).2.2.2 (by omega) hm HN.out, (below5 w _ _ _ _ _).drew, by omega⟩
  · go_wp2
    exact bodyPost_ret (v := .agg #[.map (some (w.heap.size + 1 + 1 + 1 + 1)), .slice (some ⟨w.heap.size + 1 + 1, 0, none⟩) 0 m, .slice (some ⟨w.heap.size + 1 + 1 + 1, 0, none⟩) 0 m, .slice (some ⟨w.heap.size + 1, 0, none⟩) 0 m]) (by simp [results, Yba.results4, go_sem]) rfl ⟨_, _, _, _, rfl, map_of (h5 w _ _ _ _ _).2.2.2, row_of (h5 w _ _ _ _ _).2.1 (by omega) hm HM.out, row_of (h5 w _ _ _ _ _).2.2.1 (by omega) hm HN.out, (below5 w _ _ _ _ _).drew, by omega⟩
  · go_wp2
    exact bodyPost_ret (v := .agg #[.map (some (w.heap.size + 1 + 1 + 1)), .slice (some ⟨w.heap.size + 1 + 1 + 1 + 1, 0, none⟩) 0 m, .slice (some ⟨w.heap.size + 1 + 1, 0, none⟩) 0 m, .slice (some ⟨w.heap.size + 1, 0, none⟩) 0 m]) (by simp [results, Yba.results4, go_sem]) rfl ⟨_, _, _, _, rfl, map_of (h5 w _ _ _ _ _).2.2.1, row_of (h5 w _ _ _ _ _).2.2.2 (by omega) hm HM.out, row_of (h5 w _ _ _ _ _).2.1 (by omega) hm HN.out, (below5 w _ _ _ _ _).drew, by omega⟩
  · go_wp2
    exact bodyPost_ret (v := .agg #[.map (some (w.heap.size + 1 + 1 + 1 + 1)), .slice (some ⟨w.heap.size + 1 + 1 + 1, 0, none⟩) 0 m, .slice (some ⟨w.heap.size + 1 + 1, 0, none⟩) 0 m, .slice (some ⟨w.heap.size + 1, 0, none⟩) 0 m]) (by simp [results, Yba.results4, go_sem]) rfl ⟨_, _, _, _, rfl, map_of (h5 w _ _ _ _ _).2.2.2, row_of (h5 w _ _ _ _ _).2.2.1 (by omega) hm HM.out, row_of (h5 w _ _ _ _ _).2.1 (by omega) hm HN.out, (below5 w _ _ _ _ _).drew, by omega⟩
end Go.Proofs.Ybulkdmoy
