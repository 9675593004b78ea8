import Derived.Test.YbulkdmoyFind
namespace Go.Proofs.Ybulkdmoy
open Go.ChangeShapes Go.WideShapes Go.ChangeAt Go.RowKit
set_option linter.unusedVariables false

/-! ### slices.Grow, doubled -/
theorem info43 : (Yba.prog.info? 43).map (fun i => (i.zero, i.size, i.bytes)) = some (some (.agg #[.string ⟨#[]⟩, .int .i64 0, .int .i64 0, .int .u64 0]), 4, 40) := by kernel_rfl
theorem info3 : (Yba.prog.info? 3).map (fun i => (i.zero, i.size, i.bytes)) = some (some (.int .i64 0), 1, 8) := by kernel_rfl
theorem info2 : (Yba.prog.info? 2).map (fun i => (i.zero, i.size, i.bytes)) = some (some (.int .i64 0), 1, 8) := by kernel_rfl
theorem info9 : (Yba.prog.info? 9).map (fun i => (i.zero, i.size, i.bytes)) = some (some (.string ⟨#[]⟩), 1, 16) := by kernel_rfl

/-- What Grow lays, owned. -/
theorem grown_row {w : World} {B : Nat} {e : TypeId} {size n G : Nat} {xs : List Value} {zs : Array Value} (hB : B ≤ w.heap.size) (hl : xs.length = n * size) (hn : n ≤ G) (hG : G ≤ maxLen) (hz : zs.size = (G - n) * size) :
    (w.drew.alloc (.cells (xs.toArray ++ zs) e)).ownsRow B e size (.slice (some ⟨w.heap.size, 0, none⟩) n G) n xs := by
  refine ⟨hl, .inr ⟨w.heap.size, G, _, rfl, hB, heap_alloc_new w.drew _, hn, hG, ?_, ?_⟩⟩
  · rw [Array.size_append, List.size_toArray, hl, hz, ← Nat.add_mul]
    congr 1
    omega
  · rw [Array.toList_append, ← hl]
    exact List.take_left

theorem grow14_any (B g n m : Nat) (w : World) (xs : List Value) (hB : B ≤ w.heap.size) (hown : w.ownsRow B 43 4 (.slice (some ⟨g, 0, none⟩) n n) n xs) (hm : 1 ≤ m) (hb : n + m ≤ 100000) :
    Calls Yba.prog 14 #[.slice (some ⟨g, 0, none⟩) n n, .int .i64 (m : Int)] w fun e w' => ∃ g' cap', e = .returned (.slice (some ⟨g', 0, none⟩) n cap') ∧ w'.ownsRow B 43 4 (.slice (some ⟨g', 0, none⟩) n cap') n xs ∧ Below w.heap.size w w' ∧ w.heap.size ≤ g' := by
  obtain ⟨i0, hi, hz0, hz1, hz2⟩ := info_parts info43
  have h := Any8.slices_Grow_grow Yba.grow14 i0 (.agg #[.string ⟨#[]⟩, .int .i64 0, .int .i64 0, .int .u64 0]) hi hz0 (by omega) (some ⟨g, 0, none⟩) n n m xs w (Nat.le_refl _) (by omega) (by rw [hz2]; omega) (by omega) (by rw [hz1]; exact hown.1) (fun h => by cases h) (fun a ha j v hj => by cases ha; exact hown.cells (g := g) rfl j v hj)
  refine h.mono fun e w' ⟨he, hw⟩ => ?_
  subst hw
  have hge := grownCap_ge w (n + m) n 43
  have hle := grownCap_le_maxLen w (n + m) n 43 (by unfold maxLen; omega)
  refine ⟨w.heap.size, _, he, ?_, ((Below.refl _ w).drew).alloc (Nat.le_refl _) _, Nat.le_refl _⟩
  show (w.drew.alloc (.cells (xs.toArray ++ Builtin.zeroCells _ (n + m - n) ++ Builtin.zeroCells _ (grownCap w (n + m) n 43 - (n + m))) 43)).ownsRow B 43 4 (.slice (some ⟨w.heap.size, 0, none⟩) n (grownCap w (n + m) n 43)) n xs
  rw [Array.append_assoc]
  refine grown_row hB hown.1 (by omega) hle ?_
  rw [Array.size_append, size_zeroCells, size_zeroCells]
  show _ * 4 + _ * 4 = _
  omega

theorem grow16_any (B g n m : Nat) (w : World) (xs : List Value) (hB : B ≤ w.heap.size) (hown : w.ownsRow B 3 1 (.slice (some ⟨g, 0, none⟩) n n) n xs) (hm : 1 ≤ m) (hb : n + m ≤ 100000) :
    Calls Yba.prog 16 #[.slice (some ⟨g, 0, none⟩) n n, .int .i64 (m : Int)] w fun e w' => ∃ g' cap', e = .returned (.slice (some ⟨g', 0, none⟩) n cap') ∧ w'.ownsRow B 3 1 (.slice (some ⟨g', 0, none⟩) n cap') n xs ∧ Below w.heap.size w w' ∧ w.heap.size ≤ g' := by
  obtain ⟨i0, hi, hz0, hz1, hz2⟩ := info_parts info3
  have h := Any8.slices_Grow_grow Yba.grow16 i0 (.int .i64 0) hi hz0 (by omega) (some ⟨g, 0, none⟩) n n m xs w (Nat.le_refl _) (by omega) (by rw [hz2]; omega) (by omega) (by rw [hz1]; exact hown.1) (fun h => by cases h) (fun a ha j v hj => by cases ha; exact hown.cells (g := g) rfl j v hj)
  refine h.mono fun e w' ⟨he, hw⟩ => ?_
  subst hw
  have hge := grownCap_ge w (n + m) n 3
  have hle := grownCap_le_maxLen w (n + m) n 3 (by unfold maxLen; omega)
  refine ⟨w.heap.size, _, he, ?_, ((Below.refl _ w).drew).alloc (Nat.le_refl _) _, Nat.le_refl _⟩
  show (w.drew.alloc (.cells (xs.toArray ++ Builtin.zeroCells _ (n + m - n) ++ Builtin.zeroCells _ (grownCap w (n + m) n 3 - (n + m))) 3)).ownsRow B 3 1 (.slice (some ⟨w.heap.size, 0, none⟩) n (grownCap w (n + m) n 3)) n xs
  rw [Array.append_assoc]
  refine grown_row hB hown.1 (by omega) hle ?_
  rw [Array.size_append, size_zeroCells, size_zeroCells]
  show _ * 1 + _ * 1 = _
  omega

theorem dbl10_any (B g n cap : Nat) (w : World) (xs : List Value) (hB : B ≤ w.heap.size) (hown : w.ownsRow B 43 4 (.slice (some ⟨g, 0, none⟩) n cap) n xs) (hn : n ≤ 10000) :
    Calls Yba.prog 10 #[.slice (some ⟨g, 0, none⟩) n cap] w fun e w' => ∃ g' cap', e = .returned (.slice (some ⟨g', 0, none⟩) n cap') ∧ w'.ownsRow B 43 4 (.slice (some ⟨g', 0, none⟩) n cap') n xs ∧ Below w.heap.size w w' ∧ (g' = g ∨ w.heap.size ≤ g') := by
  have HO : Hid (w.ownsRow B 43 4 (.slice (some ⟨g, 0, none⟩) n cap) n xs) := hown
  have hnc : n ≤ cap ∧ cap ≤ maxLen := by
    rcases row_form hown with ⟨h, _⟩ | ⟨g', c', h, h1, h2, _⟩
    · cases h
    · cases h; exact ⟨h1, h2⟩
  obtain ⟨hnc, hcm⟩ := hnc
  unfold maxLen at hcm
  clear hown
  by_cases h : n < cap
  · go_enter Yba.func10, Yba.ntmps10
    go_wp2
    go_ret
    exact ⟨g, cap, rfl, HO.out, Below.refl _ _, .inl rfl⟩
  · obtain rfl : cap = n := by omega
    have C : Hid (∀ m : Nat, 1 ≤ m → cap + m ≤ 100000 → Calls Yba.prog 14 #[.slice (some ⟨g, 0, none⟩) cap cap, .int .i64 (m : Int)] w fun e w' => ∃ g' cap', e = .returned (.slice (some ⟨g', 0, none⟩) cap cap') ∧ w'.ownsRow B 43 4 (.slice (some ⟨g', 0, none⟩) cap cap') cap xs ∧ Below w.heap.size w w' ∧ w.heap.size ≤ g') := fun m h1 h2 => grow14_any B g cap m w xs hB HO.out h1 h2
    go_enter Yba.func10, Yba.ntmps10
    go_wp2_with fail
    rw [show (max (cap : Int) 8) = ((max cap 8 : Nat) : Int) by omega]
    refine (C.out (max cap 8) (by omega) (by omega)).mono ?_
    rintro e w' ⟨g', cap', rfl, ho, hb, hg⟩
    go_wp2_with fail
    go_ret
    exact ⟨g', cap', rfl, ho, hb, .inr hg⟩

theorem dbl12_any (B g n cap : Nat) (w : World) (xs : List Value) (hB : B ≤ w.heap.size) (hown : w.ownsRow B 3 1 (.slice (some ⟨g, 0, none⟩) n cap) n xs) (hn : n ≤ 10000) :
    Calls Yba.prog 12 #[.slice (some ⟨g, 0, none⟩) n cap] w fun e w' => ∃ g' cap', e = .returned (.slice (some ⟨g', 0, none⟩) n cap') ∧ w'.ownsRow B 3 1 (.slice (some ⟨g', 0, none⟩) n cap') n xs ∧ Below w.heap.size w w' ∧ (g' = g ∨ w.heap.size ≤ g') := by
  have HO : Hid (w.ownsRow B 3 1 (.slice (some ⟨g, 0, none⟩) n cap) n xs) := hown
  have hnc : n ≤ cap ∧ cap ≤ maxLen := by
    rcases row_form hown with ⟨h, _⟩ | ⟨g', c', h, h1, h2, _⟩
    · cases h
    · cases h; exact ⟨h1, h2⟩
  obtain ⟨hnc, hcm⟩ := hnc
  unfold maxLen at hcm
  clear hown
  by_cases h : n < cap
  · go_enter Yba.func12, Yba.ntmps12
    go_wp2
    go_ret
    exact ⟨g, cap, rfl, HO.out, Below.refl _ _, .inl rfl⟩
  · obtain rfl : cap = n := by omega
    have C : Hid (∀ m : Nat, 1 ≤ m → cap + m ≤ 100000 → Calls Yba.prog 16 #[.slice (some ⟨g, 0, none⟩) cap cap, .int .i64 (m : Int)] w fun e w' => ∃ g' cap', e = .returned (.slice (some ⟨g', 0, none⟩) cap cap') ∧ w'.ownsRow B 3 1 (.slice (some ⟨g', 0, none⟩) cap cap') cap xs ∧ Below w.heap.size w w' ∧ w.heap.size ≤ g') := fun m h1 h2 => grow16_any B g cap m w xs hB HO.out h1 h2
    go_enter Yba.func12, Yba.ntmps12
    go_wp2_with fail
    rw [show (max (cap : Int) 8) = ((max cap 8 : Nat) : Int) by omega]
    refine (C.out (max cap 8) (by omega) (by omega)).mono ?_
    rintro e w' ⟨g', cap', rfl, ho, hb, hg⟩
    go_wp2_with fail
    go_ret
    exact ⟨g', cap', rfl, ho, hb, .inr hg⟩

end Go.Proofs.Ybulkdmoy
