import Derived.Test.YbulkdmuwD
namespace Go.Proofs.Ybulkdmuw
open Go.ChangeShapes Go.WideShapes Go.ChangeAt Go.RowKit
set_option linter.unusedVariables false

/-! ### The seed's two words -/
def w0 (s : Nat) : Nat := foldN (s ^^^ 7640891576956012808) 13503953896175478587
def w1 (s : Nat) : Nat := foldN (s ^^^ 4354685564936845355) 11912009170470909681
theorem x0_run (s : Nat) (hs : s < 18446744073709551616) : bits .xor .u64 (s : Int) 7640891576956012808 = ((s ^^^ 7640891576956012808 : Nat) : Int) := bits_xor_u64_nat s 7640891576956012808 hs (by decide)
theorem x1_run (s : Nat) (hs : s < 18446744073709551616) : bits .xor .u64 (s : Int) 4354685564936845355 = ((s ^^^ 4354685564936845355 : Nat) : Int) := bits_xor_u64_nat s 4354685564936845355 hs (by decide)
theorem x0_bd (s : Nat) (hs : s < 18446744073709551616) : s ^^^ 7640891576956012808 < 18446744073709551616 := Nat.xor_lt_two_pow (n := 64) hs (by decide)
theorem x1_bd (s : Nat) (hs : s < 18446744073709551616) : s ^^^ 4354685564936845355 < 18446744073709551616 := Nat.xor_lt_two_pow (n := 64) hs (by decide)

theorem fold0 (s : Nat) (hs : s < 18446744073709551616) (w : World) :
    Calls Yba.prog 14 #[.int .u64 ((s ^^^ 7640891576956012808 : Nat) : Int), .int .u64 13503953896175478587] w fun e w' => e = .returned (.int .u64 ((w0 s : Nat) : Int)) ∧ w' = w :=
  fold_any (s ^^^ 7640891576956012808) 13503953896175478587 (x0_bd s hs) (by decide) w
theorem fold1 (s : Nat) (hs : s < 18446744073709551616) (w : World) :
    Calls Yba.prog 14 #[.int .u64 ((s ^^^ 4354685564936845355 : Nat) : Int), .int .u64 11912009170470909681] w fun e w' => e = .returned (.int .u64 ((w1 s : Nat) : Int)) ∧ w' = w :=
  fold_any (s ^^^ 4354685564936845355) 11912009170470909681 (x1_bd s hs) (by decide) w
theorem zfold0 (s : Nat) (hs : s < 18446744073709551616) (w : World) :
    Calls Yba.prog 8 #[.int .u64 ((s ^^^ 7640891576956012808 : Nat) : Int), .int .u64 13503953896175478587] w fun e w' => e = .returned (.int .u64 ((w0 s : Nat) : Int)) ∧ w' = w :=
  zfold_any (s ^^^ 7640891576956012808) 13503953896175478587 (x0_bd s hs) (by decide) w
theorem zfold1 (s : Nat) (hs : s < 18446744073709551616) (w : World) :
    Calls Yba.prog 8 #[.int .u64 ((s ^^^ 4354685564936845355 : Nat) : Int), .int .u64 11912009170470909681] w fun e w' => e = .returned (.int .u64 ((w1 s : Nat) : Int)) ∧ w' = w :=
  zfold_any (s ^^^ 4354685564936845355) 11912009170470909681 (x1_bd s hs) (by decide) w

theorem seed_any (s : Nat) (hs : s < 18446744073709551616) (w : World) :
    Calls Yba.prog 11 #[.int .u64 (s : Int)] w fun e w' => e = .returned (.agg #[.int .u64 ((w0 s : Nat) : Int), .int .u64 ((w1 s : Nat) : Int)]) ∧ w' = w.alloc (.cells #[.int .u64 ((w0 s : Nat) : Int), .int .u64 ((w1 s : Nat) : Int)] 29) := by
  have hx0 := x0_run s hs
  have hx1 := x1_run s hs
  have C0 : Hid (∀ w, _) := fun w => fold0 s hs w
  have C1 : Hid (∀ w, _) := fun w => fold1 s hs w
  generalize (s ^^^ 7640891576956012808 : Nat) = X0 at *
  generalize (s ^^^ 4354685564936845355 : Nat) = X1 at *
  generalize w0 s = A at *
  generalize w1 s = B at *
  go_enter Yba.func11, Yba.ntmps11
  go_wp2_with fail
  refine (C0.out _).mono ?_
  rintro e w1 ⟨rfl, rfl⟩
  go_wp2_with fail
  refine (C1.out _).mono ?_
  rintro e w1 ⟨rfl, rfl⟩
  go_wp2_with fail
  exact bodyPost_ret (v := .agg #[.int .u64 (A : Int), .int .u64 (B : Int)]) (by simp [results, Yba.results11, go_sem]) rfl ⟨rfl, rfl⟩

theorem ix0 (a b c : Value) (w : World) : (Instr.index 30 (.agg #[a, b, c]) (.int .i64 0)).run Yba.prog w = .ok a w := by kernel_rfl
theorem ix1 (a b c : Value) (w : World) : (Instr.index 30 (.agg #[a, b, c]) (.int .i64 1)).run Yba.prog w = .ok b w := by kernel_rfl
theorem ix2 (a b c : Value) (w : World) : (Instr.index 30 (.agg #[a, b, c]) (.int .i64 2)).run Yba.prog w = .ok c w := by kernel_rfl

set_option maxHeartbeats 800000 in
theorem place_any (s : Nat) (hs : s < 18446744073709551616) (c : Int) (w : World) :
    Calls Yba.prog 7 #[.int .u64 (s : Int), .int .i64 c] w fun e w' => ∃ b : Nat, e = .returned (.pointer (some ⟨b, 0, none⟩)) ∧ b < w'.heap.size ∧ Grown w w' ∧
      w'.cell? ⟨b, 0, none⟩ = some (.int .u64 (w0 s : Int)) ∧ w'.cell? ⟨b, 1, none⟩ = some (.int .u64 (w1 s : Int)) ∧ w'.cell? ⟨b, 2, none⟩ = some (.int .i64 0) ∧ w'.cell? ⟨b, 3, none⟩ = some (.int .i64 (sz c 0)) ∧ w'.cell? ⟨b, 4, none⟩ = some (.int .i64 (wrap64 (sz c 0 + sz c 1))) ∧
      w'.cell? ⟨b, 5, none⟩ = some (.int .u64 (IntKind.u64.wrap (sz c 0))) ∧ w'.cell? ⟨b, 6, none⟩ = some (.int .u64 (IntKind.u64.wrap (sz c 1))) ∧ w'.cell? ⟨b, 7, none⟩ = some (.int .u64 (IntKind.u64.wrap (sz c 2))) := by
  have C0 : Hid (∀ w, _) := fun w => seed_any s hs w
  have C1 : Hid (∀ w, _) := fun w => sub_any c w
  have i0 := ix0
  have i1 := ix1
  have i2 := ix2
  generalize w0 s = A at *
  generalize w1 s = B at *
  generalize (sz c 0) = S0 at *
  generalize (sz c 1) = S1 at *
  generalize (sz c 2) = S2 at *
  generalize wrap64 (S0 + S1) = S01 at *
  go_enter Yba.func7, Yba.ntmps7
  go_wp2_with fail
  refine (C0.out _).mono ?_
  rintro e w1 ⟨rfl, rfl⟩
  go_wp2_with fail
  refine (C1.out _).mono ?_
  rintro e w1 ⟨rfl, rfl⟩
  go_wp2_with fail
  refine wp_loop_rounds 4 ?_; rw [rounds_succ]
  go_wp2
  rw [rounds_succ]
  go_wp2
  rw [rounds_succ]
  go_wp2
  rw [rounds_succ]
  go_wp2
  go_ret
  refine ⟨w.heap.size + 1, rfl, by simp, by repeat (first | exact Grown.refl _ | apply Grown.drew | apply Grown.alloc), ?_, ?_, ?_, ?_, ?_, ?_, ?_, ?_⟩
  all_goals go_simp

/-- The eight cells of the place, in a world. -/
def Cells8 (w : World) (b : Nat) (A B : Nat) (S0 S1 S2 : Int) : Prop :=
  b < w.heap.size ∧ w.cell? ⟨b, 0, none⟩ = some (.int .u64 (A : Int)) ∧ w.cell? ⟨b, 1, none⟩ = some (.int .u64 (B : Int)) ∧ w.cell? ⟨b, 2, none⟩ = some (.int .i64 0) ∧ w.cell? ⟨b, 3, none⟩ = some (.int .i64 S0) ∧ w.cell? ⟨b, 4, none⟩ = some (.int .i64 (wrap64 (S0 + S1))) ∧
      w.cell? ⟨b, 5, none⟩ = some (.int .u64 (IntKind.u64.wrap S0)) ∧ w.cell? ⟨b, 6, none⟩ = some (.int .u64 (IntKind.u64.wrap S1)) ∧ w.cell? ⟨b, 7, none⟩ = some (.int .u64 (IntKind.u64.wrap S2))

theorem Cells8.alloc {w : World} {b A B : Nat} {S0 S1 S2 : Int} (h : Cells8 w b A B S0 S1 S2) (o : Obj) : Cells8 (w.alloc o) b A B S0 S1 S2 := by
  obtain ⟨hb, c0, c1, c2, c3, c4, c5, c6, c7⟩ := h
  refine ⟨by simp; omega, ?_, ?_, ?_, ?_, ?_, ?_, ?_, ?_⟩
  all_goals rw [World.cell?_alloc_past _ _ _ hb]; assumption
/-- The three sizes in a world. -/
def Cells3 (w : World) (q : Nat) (S0 S1 S2 : Int) : Prop :=
  w.cell? ⟨q, 0, none⟩ = some (.int .i64 S0) ∧ w.cell? ⟨q, 1, none⟩ = some (.int .i64 S1) ∧ w.cell? ⟨q, 2, none⟩ = some (.int .i64 S2)
theorem Cells3.new (w : World) (q : Nat) (hq : q = w.heap.size) (S0 S1 S2 : Int) : Cells3 (w.alloc (.cells #[.int .i64 S0, .int .i64 S1, .int .i64 S2] 30)) q S0 S1 S2 := by
  subst hq
  exact ⟨by rw [World.cell?_alloc_new]; rfl, by rw [World.cell?_alloc_new]; rfl, by rw [World.cell?_alloc_new]; rfl⟩

set_option maxHeartbeats 1600000 in
theorem lawC (s : Nat) (hs : s < 18446744073709551616) (c : Int) (w : World) :
    Calls Yba.prog 4 #[.int .u64 (s : Int), .int .i64 c] w fun e w' => e = .returned (.bool true) ∧ Grown w w' := by
  have hx0 := x0_run s hs
  have hx1 := x1_run s hs
  have C0 : Hid (∀ w, _) := fun w => place_any s hs c w
  have C1 : Hid (∀ w, _) := fun w => zfold0 s hs w
  have C2 : Hid (∀ w, _) := fun w => zfold1 s hs w
  have C3 : Hid (∀ w, _) := fun w => model_any c w
  generalize (s ^^^ 7640891576956012808 : Nat) = X0 at *
  generalize (s ^^^ 4354685564936845355 : Nat) = X1 at *
  generalize w0 s = A at *
  generalize w1 s = B at *
  generalize (sz c 0) = S0 at *
  generalize (sz c 1) = S1 at *
  generalize (sz c 2) = S2 at *
  go_enter Yba.func4, Yba.ntmps4
  go_wp2_with fail
  refine (C0.out _).mono ?_
  rintro e wa ⟨b, rfl, hb, hg, c0, c1, c2, c3, c4, c5, c6, c7⟩
  have K : Hid (Cells8 wa b A B S0 S1 S2) := ⟨hb, c0, c1, c2, c3, c4, c5, c6, c7⟩
  clear hb c1 c2 c3 c4 c5 c6 c7
  go_wp2_with fail
  go_quiet ((go_at_call 8; exact Calls.quiet_of_same (C1.out _)))
  obtain ⟨wb, hwb⟩ : ∃ wb, wb = wa.drewN nq := ⟨_, rfl⟩
  rw [← hwb]
  have hg2 : Grown w wb := by rw [hwb]; exact hg
  have K2 : Hid (Cells8 wb b A B S0 S1 S2) := by rw [hwb]; exact K
  clear hwb c0 K hg
  have c1 := K2.out.2.2.1
  go_wp2_with fail
  go_quiet ((go_at_call 8; exact Calls.quiet_of_same (C2.out _)))
  obtain ⟨wc, hwc⟩ : ∃ wc, wc = wb.drewN nq := ⟨_, rfl⟩
  rw [← hwc]
  have hg3 : Grown w wc := by rw [hwc]; exact hg2
  have K3 : Hid (Cells8 wc b A B S0 S1 S2) := by rw [hwc]; exact K2
  clear hwc c1 K2 hg2
  go_wp2_with fail
  refine (C3.out _).mono ?_
  rintro e wd ⟨rfl, rfl⟩
  clear C0 C1 C2 C3 hx0 hx1
  have K4 : Hid (Cells8 (((wc.alloc (.cells #[.int .i64 S0, .int .i64 S1, .int .i64 S2] 30)).alloc (.cells #[.int .i64 S0, .int .i64 S1, .int .i64 S2] 30)).alloc (.cells #[.int .i64 S0, .int .i64 S1, .int .i64 S2] 30)) b A B S0 S1 S2) := ((K3.out.alloc _).alloc _).alloc _
  have L4 : Hid (Cells3 (((wc.alloc (.cells #[.int .i64 S0, .int .i64 S1, .int .i64 S2] 30)).alloc (.cells #[.int .i64 S0, .int .i64 S1, .int .i64 S2] 30)).alloc (.cells #[.int .i64 S0, .int .i64 S1, .int .i64 S2] 30)) (wc.heap.size + 1 + 1) S0 S1 S2) := Cells3.new _ _ (by simp) _ _ _
  have hg4 : Hid (Grown w (((wc.alloc (.cells #[.int .i64 S0, .int .i64 S1, .int .i64 S2] 30)).alloc (.cells #[.int .i64 S0, .int .i64 S1, .int .i64 S2] 30)).alloc (.cells #[.int .i64 S0, .int .i64 S1, .int .i64 S2] 30))) := ((hg3.alloc _ _).alloc _ _).alloc _ _
  clear K3 hg3
  go_wp2_with fail
  generalize (((wc.alloc (.cells #[.int .i64 S0, .int .i64 S1, .int .i64 S2] 30)).alloc (.cells #[.int .i64 S0, .int .i64 S1, .int .i64 S2] 30)).alloc (.cells #[.int .i64 S0, .int .i64 S1, .int .i64 S2] 30)) = we at *
  generalize (wc.heap.size + 1 + 1) = q at *
  obtain ⟨hb, c0, c1, c2, c3, c4, c5, c6, c7⟩ := K4.out
  obtain ⟨d0, d1, d2⟩ := L4.out
  have hw1 := IntWalk.i64_left (S0 + S1)
  go_quiet (fail)
  go_wp2_with fail
  refine wp_loop_rounds 4 ?_; rw [rounds_succ]
  go_wp2_with fail
  go_quiet (fail)
  go_wp2_with fail
  rw [rounds_succ]
  go_wp2_with fail
  go_quiet (fail)
  go_wp2_with fail
  rw [rounds_succ]
  go_wp2_with fail
  go_quiet (fail)
  go_wp2_with fail
  rw [rounds_succ]
  go_wp2_with fail
  go_ret
  exact ⟨rfl, hg4.out⟩
end Go.Proofs.Ybulkdmuw
