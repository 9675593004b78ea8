import Derived.Test.YbulkdmoyTab
namespace Go.Proofs.Ybulkdmoy
open Go.ChangeShapes Go.WideShapes Go.ChangeAt Go.RowKit Go.WideMaps Go.Maps
set_option linter.unusedVariables false

/-! ### the table -/
/-- a member: its id, its date, its line -/
abbrev Mem := ByteArray × Int × Int
def memCells (m : Mem) : List Value := [.string m.1, .int .i64 m.2.1, .int .i64 m.2.2, .int .u64 (head m.1 : Int)]
def cellsOf (ms : List Mem) : List Value := ms.flatMap memCells
def idsOf (ms : List Mem) : List ByteArray := ms.map (·.1)
def ints (l : List Int) : List Value := l.map (Value.int .i64)
theorem idsOf_length (ms : List Mem) : (idsOf ms).length = ms.length := by simp [idsOf]
theorem cellsOf_snoc (ms : List Mem) (m : Mem) : cellsOf (ms ++ [m]) = cellsOf ms ++ memCells m := by simp [cellsOf]

def tabCells (bm gs cs n gt ct k : Nat) (ya : Option Addr) (yc : Nat) : Array Value := #[.map (some bm), .slice (some ⟨gs, 0, none⟩) n cs, .slice (some ⟨gt, 0, none⟩) k ct, .slice ya 0 yc]
/-- Block T of w is a table that holds the members ms and the day's rows td. -/
def Tab (B : Nat) (w : World) (T bm gs cs gt ct : Nat) (ya : Option Addr) (yc : Nat) (ms : List Mem) (td : List Int) : Prop :=
  w.heap[T]? = some (.cells (tabCells bm gs cs ms.length gt ct td.length ya yc) 30 (0, 0)) ∧
  w.ownsRow B 43 4 (.slice (some ⟨gs, 0, none⟩) ms.length cs) ms.length (cellsOf ms) ∧
  w.ownsRow B 3 1 (.slice (some ⟨gt, 0, none⟩) td.length ct) td.length (ints td) ∧
  MapIs w bm (idsOf ms) ∧ B ≤ T ∧ B ≤ bm

theorem row_block {w : World} {B : Nat} {e : TypeId} {size g n cap : Nat} {xs : List Value} (h : w.ownsRow B e size (.slice (some ⟨g, 0, none⟩) n cap) n xs) : ∃ cur, w.heap[g]? = some (.cells cur e (0, 0)) ∧ B ≤ g := by
  rcases h.2 with ⟨h', _⟩ | ⟨g', cap', cur, h', hb, hg, _⟩
  · cases h'
  · cases h'; exact ⟨cur, hg, hb⟩

theorem Tab.cells {B : Nat} {w : World} {T bm gs cs gt ct : Nat} {ya : Option Addr} {yc : Nat} {ms : List Mem} {td : List Int} (h : Tab B w T bm gs cs gt ct ya yc ms td) :
    w.cell? ⟨T, 0, none⟩ = some (.map (some bm)) ∧ w.cell? ⟨T, 1, none⟩ = some (.slice (some ⟨gs, 0, none⟩) ms.length cs) ∧ w.cell? ⟨T, 2, none⟩ = some (.slice (some ⟨gt, 0, none⟩) td.length ct) ∧ w.cell? ⟨T, 3, none⟩ = some (.slice ya 0 yc) ∧ (∀ j, w.frozen? ⟨T, j, none⟩ = false) := by
  obtain ⟨h1, _⟩ := h
  refine ⟨?_, ?_, ?_, ?_, fun j => frozen_of_row w T j _ 30 h1⟩
  all_goals (rw [cell_of_row w T _ _ 30 (0, 0) h1]; rfl)

/-- The three blocks that 'add' writes, the three that 'row' writes: which block is which. -/
theorem Tab.apart {B : Nat} {w : World} {T bm gs cs gt ct : Nat} {ya : Option Addr} {yc : Nat} {ms : List Mem} {td : List Int} (h : Tab B w T bm gs cs gt ct ya yc ms td) :
    T ≠ bm ∧ T ≠ gs ∧ T ≠ gt ∧ bm ≠ gs ∧ bm ≠ gt ∧ gs ≠ gt ∧ T < w.heap.size ∧ bm < w.heap.size ∧ gs < w.heap.size ∧ gt < w.heap.size := by
  obtain ⟨h1, h2, h3, h4, _⟩ := h
  obtain ⟨c2, e2, _⟩ := row_block h2
  obtain ⟨c3, e3, _⟩ := row_block h3
  obtain ⟨D, ⟨es, clock, e4, _⟩, _⟩ := h4
  have lt : ∀ {k : Nat} {o : Obj}, w.heap[k]? = some o → k < w.heap.size := fun h => (Array.getElem?_eq_some_iff.1 h).1
  refine ⟨?_, ?_, ?_, ?_, ?_, ?_, lt h1, lt e4, lt e2, lt e3⟩
  · rintro rfl; rw [h1] at e4; cases e4
  · rintro rfl; rw [h1] at e2; cases e2
  · rintro rfl; rw [h1] at e3; cases e3
  · rintro rfl; rw [e4] at e2; cases e2
  · rintro rfl; rw [e4] at e3; cases e3
  · rintro rfl; rw [e2] at e3; cases e3

theorem Tab.kept {B : Nat} {w w' : World} {S : Nat → Prop} {T bm gs cs gt ct : Nat} {ya : Option Addr} {yc : Nat} {ms : List Mem} {td : List Int} (h : Tab B w T bm gs cs gt ct ya yc ms td) (k : Kept w w' S) (hT : ¬ S T) (hb : ¬ S bm) (hs : ¬ S gs) (ht : ¬ S gt) : Tab B w' T bm gs cs gt ct ya yc ms td := by
  obtain ⟨h1, h2, h3, h4, h5⟩ := h
  exact ⟨k.heap h1 hT, k.row h2 (fun j hj => by cases hj; exact hs), k.row h3 (fun j hj => by cases hj; exact ht), h4.kept k hb, h5⟩

/-! ### add -/
/-- what 'add' makes of the members -/
def addM (ms : List Mem) (s : ByteArray) : List Mem := if pos (idsOf ms) s < ms.length then ms else ms ++ [(s, 0, 0)]

theorem add_hit (B : Nat) (T bm gs cs gt ct : Nat) (ya : Option Addr) (yc : Nat) (ms : List Mem) (td : List Int) (s : ByteArray) (w : World)
    (h : Tab B w T bm gs cs gt ct ya yc ms td) (hs : s.size ≤ 140737488355328) (hn : ms.length ≤ 5000) (hp : pos (idsOf ms) s < ms.length) :
    Calls Yba.prog 5 #[.pointer (some ⟨T, 0, none⟩), .string s] w fun e w' => e = .returned (.int .i64 (pos (idsOf ms) s : Int)) ∧ w' = w := by
  obtain ⟨c0, _, _, _, _⟩ := h.cells
  have hlk := h.2.2.2.1.look s (by unfold maxLen; omega)
  rw [idsOf_length, if_pos hp, decide_eq_true hp] at hlk
  clear h
  go_enter Yba.func5, Yba.ntmps5
  go_wp2
  go_ret
  exact ⟨rfl, rfl⟩

/-- The table's block behind the append of a member. -/
theorem tab_store {w1 w2 w3 w4 w5 : World} {T bm gs cs n gt ct k yc g3 c3 : Nat} {ya : Option Addr} {o : Obj} (hT : T < w1.heap.size) (z2 : w1.heap.size ≤ w2.heap.size) (z3 : w2.heap.size ≤ w3.heap.size) (z4 : w3.heap.size ≤ w4.heap.size)
    (hp : w4.heap[T]? = some (.cells (tabCells bm gs cs n gt ct k ya yc) 30 (0, 0))) (hne : T ≠ g3) (hg : (w4.alloc o).grownBy w5 (Value.ownBlock (.slice (some ⟨g3, 0, none⟩) n c3))) :
    w5.cell? ⟨T, 1, none⟩ = some (.slice (some ⟨gs, 0, none⟩) n cs) ∧ w5.frozen? ⟨T, 1, none⟩ = false := by
  have h5 : w5.heap[T]? = some (.cells (tabCells bm gs cs n gt ct k ya yc) 30 (0, 0)) := by
    rw [hg.block T (by simp; omega) (by simp [Value.ownBlock, hne]), Below.heap_alloc _ _ _ (by omega)]
    exact hp
  exact ⟨by rw [cell_of_row w5 T _ _ 30 (0, 0) h5]; rfl, frozen_of_row w5 T 1 _ 30 h5⟩

theorem add_end {B : Nat} {w w1 w2 w3 w4 w5 : World} {T bm gs cs gt ct g3 c3 g5 c5 : Nat} {ya : Option Addr} {yc : Nat} {ms : List Mem} {td : List Int} {s : ByteArray} {o : Obj}
    (hb1 : Below w.heap.size w w1) (hk2 : Kept w1.drew w2 (fun k => k = bm))
    (ha : T ≠ bm ∧ T ≠ gs ∧ T ≠ gt ∧ bm ≠ gs ∧ bm ≠ gt ∧ gs ≠ gt ∧ T < w1.heap.size ∧ bm < w1.heap.size ∧ gs < w1.heap.size ∧ gt < w1.heap.size)
    (p1 : w2.heap[T]? = some (.cells (tabCells bm gs cs ms.length gt ct td.length ya yc) 30 (0, 0)))
    (p3 : w2.ownsRow B 3 1 (.slice (some ⟨gt, 0, none⟩) td.length ct) td.length (ints td)) (p4 : MapIs w2 bm (idsOf ms ++ [s]))
    (hg3 : g3 = gs ∨ w2.heap.size ≤ g3) (hb3 : Below w2.heap.size w2 w3) (hb4 : Below w3.heap.size w3 w4)
    (ho5 : w5.ownsRow B 43 4 (.slice (some ⟨g5, 0, none⟩) (ms.length + 1) c5) (ms.length + 1) (cellsOf ms ++ memCells (s, 0, 0)))
    (hgr : (w4.alloc o).grownBy w5 (Value.ownBlock (.slice (some ⟨g3, 0, none⟩) ms.length c3))) (hat : Value.ownBlock (.slice (some ⟨g3, 0, none⟩) ms.length c3) = some g5 ∨ g5 = w4.heap.size + 1) (hBT : B ≤ T ∧ B ≤ bm) :
    Tab B (w5.setCell ⟨T, 1, none⟩ (.slice (some ⟨g5, 0, none⟩) (ms.length + 1) c5)) T bm g5 c5 gt ct ya yc (ms ++ [(s, 0, 0)]) td ∧
      Kept w (w5.setCell ⟨T, 1, none⟩ (.slice (some ⟨g5, 0, none⟩) (ms.length + 1) c5)) (fun k => k = T ∨ k = bm ∨ k = gs) ∧ (g5 = gs ∨ w.heap.size ≤ g5) := by
  obtain ⟨a1, a2, a3, a4, a5, a6, l1, l2, l3, l4⟩ := ha
  have z1 : w.heap.size ≤ w1.heap.size := hb1.size
  have z2 : w1.heap.size ≤ w2.heap.size := hk2.size
  have z3 := hb3.size
  have z4 := hb4.size
  have kA : Kept w2 w5 (fun k => k = g3) :=
    ((Kept.of_below (S := fun k => k = g3) hb3).trans (Kept.of_below (S := fun k => k = g3) hb4) (fun _ _ h => h)).trans
      ((Kept.alloc w4 o (fun k => k = g3)).trans (.of_grown (S := fun k => k = g3) hgr (fun k e => by simp [Value.ownBlock] at e; exact e.symm)) (fun _ _ h => h)) (fun _ _ h => h)
  have n3 : ∀ k, k < w1.heap.size → k ≠ gs → ¬ k = g3 := fun k hk hne e => by
    rcases hg3 with h | h
    · exact hne (e.trans h)
    · omega
  have h5 : g5 = g3 ∨ g5 = w4.heap.size + 1 := hat.imp (fun e => by simp [Value.ownBlock] at e; exact e.symm) id
  have n5 : ∀ k, k < w1.heap.size → k ≠ gs → ¬ k = g5 := fun k hk hne e => by
    rcases h5 with h | h
    · exact n3 k hk hne (e.trans h)
    · omega
  have q1 := kA.heap p1 (n3 T l1 a2)
  have q3 := kA.row p3 (fun j hj => by cases hj; exact n3 gt l4 (Ne.symm a6))
  have q4 := p4.kept kA (n3 bm l2 a4)
  have kS : Kept w5 (w5.setCell ⟨T, 1, none⟩ (.slice (some ⟨g5, 0, none⟩) (ms.length + 1) c5)) (fun k => k = T) := .setCell w5 _ _ rfl
  refine ⟨⟨?_, ?_, kS.row q3 (fun j hj => by cases hj; exact Ne.symm a3), ?_, hBT⟩, ?_, ?_⟩
  · rw [heap_setCell_same w5 T 1 _ 30 _ q1, List.length_append]
    rfl
  · rw [List.length_append, cellsOf_snoc]
    exact kS.row ho5 (fun j hj => by cases hj; exact fun e => n5 T l1 a2 e.symm)
  · have := q4.kept kS (Ne.symm a1)
    rw [show idsOf (ms ++ [(s, 0, 0)]) = idsOf ms ++ [s] by simp [idsOf]]
    exact this
  · have k1 : Kept w w2 (fun k => k = T ∨ k = bm ∨ k = gs) := (Kept.of_below (S := fun k => k = T ∨ k = bm ∨ k = gs) hb1).trans ((Kept.drew w1 (fun k => k = bm)).trans hk2 (fun _ _ h => h)) (fun k _ h => .inr (.inl h))
    exact (k1.trans kA (fun k hk h => by rcases hg3 with e | e; exact .inr (.inr (h.trans e)); omega)).trans kS (fun k _ h => .inl h)
  · rcases h5 with h | h
    · rcases hg3 with e | e
      · exact .inl (h.trans e)
      · exact .inr (by omega)
    · exact .inr (by omega)

set_option maxHeartbeats 1000000 in
theorem add_miss (B : Nat) (T bm gs cs gt ct : Nat) (ya : Option Addr) (yc : Nat) (ms : List Mem) (td : List Int) (s : ByteArray) (w : World) (hB : B ≤ w.heap.size)
    (h : Tab B w T bm gs cs gt ct ya yc ms td) (hs : s.size ≤ 140737488355328) (hn : ms.length ≤ 5000) (hp : ¬ pos (idsOf ms) s < ms.length) :
    Calls Yba.prog 5 #[.pointer (some ⟨T, 0, none⟩), .string s] w fun e w' => e = .returned (.int .i64 (ms.length : Int)) ∧ ∃ gs' cs', Tab B w' T bm gs' cs' gt ct ya yc (ms ++ [(s, 0, 0)]) td ∧ Kept w w' (fun k => k = T ∨ k = bm ∨ k = gs) ∧ (gs' = gs ∨ w.heap.size ≤ gs') := by
  obtain ⟨c0, c1, _, _, f⟩ := h.cells
  have hlk := h.2.2.2.1.look s (by unfold maxLen; omega)
  rw [idsOf_length, if_neg hp, decide_eq_false hp] at hlk
  have HT : Hid (Tab B w T bm gs cs gt ct ya yc ms td) := h
  have C9 : Hid (∀ w, Calls Yba.prog 9 #[.string s] w fun e w' => e = .returned (.string s) ∧ Below w.heap.size w w') := fun w => clone_any s w (by omega)
  have HP : Hid (¬ pos (idsOf ms) s < ms.length) := hp
  clear h hp
  go_enter Yba.func5, Yba.ntmps5
  go_wp2_with fail
  refine (C9.out _).mono ?_
  rintro e w1 ⟨rfl, hb1⟩
  have HB1 : Hid (Below w.heap.size w w1) := hb1
  have T1 : Hid (Tab B w1 T bm gs cs gt ct ya yc ms td) := HT.out.kept (.of_below (S := fun _ => False) hb1) (fun h => h) (fun h => h) (fun h => h) (fun h => h)
  clear hb1 c0 c1 f hlk
  obtain ⟨c0, c1, _, _, f⟩ := T1.out.cells
  have T1d : Tab B w1.drew T bm gs cs gt ct ya yc ms td := T1.out.kept (.drew w1 (fun _ => False)) (fun h => h) (fun h => h) (fun h => h) (fun h => h)
  obtain ⟨w2, hup, hm2, hk2⟩ := T1d.2.2.2.1.store s (by unfold maxLen; omega) (by rw [idsOf_length]; omega) (by rw [idsOf_length]; exact HP.out)
  rw [idsOf_length] at hup
  have HM2 : Hid _ := hm2
  have HK2 : Hid _ := hk2
  clear hm2 hk2 T1d
  go_wp2_with fail
  have hap := T1.out.apart
  have p1 : w2.heap[T]? = some (.cells (tabCells bm gs cs ms.length gt ct td.length ya yc) 30 (0, 0)) := HK2.out.heap T1.out.1 hap.1
  have p2 : w2.ownsRow B 43 4 (.slice (some ⟨gs, 0, none⟩) ms.length cs) ms.length (cellsOf ms) := HK2.out.row (w := w1.drew) T1.out.2.1 (fun j hj e => hap.2.2.2.1 (by cases hj; exact e.symm))
  have p3 : w2.ownsRow B 3 1 (.slice (some ⟨gt, 0, none⟩) td.length ct) td.length (ints td) := HK2.out.row (w := w1.drew) T1.out.2.2.1 (fun j hj e => hap.2.2.2.2.1 (by cases hj; exact e.symm))
  have P1 : Hid _ := p1
  have P2 : Hid _ := p2
  have P3 : Hid _ := p3
  have HA : Hid _ := hap
  clear p1 p2 p3 hap
  have d1 : w2.cell? ⟨T, 1, none⟩ = some (.slice (some ⟨gs, 0, none⟩) ms.length cs) := by rw [cell_of_row w2 T _ _ 30 (0, 0) P1.out]; rfl
  have hz1 : w.heap.size ≤ w1.heap.size := HB1.out.size
  have hz2 : w1.heap.size ≤ w2.heap.size := HK2.out.size
  go_region
  clear hup c0 c1 f
  go_wp2_with fail
  refine (dbl10_any B gs ms.length cs w2 (cellsOf ms) (by omega) P2.out (by omega)).mono ?_
  rintro e w3 ⟨g3, c3, rfl, ho3, hb3, hg3⟩
  have O3 : Hid (w3.ownsRow B 43 4 (.slice (some ⟨g3, 0, none⟩) ms.length c3) ms.length (cellsOf ms)) := ho3
  have HB3 : Hid (Below w2.heap.size w2 w3) := hb3
  have hz3 : w2.heap.size ≤ w3.heap.size := hb3.size
  clear ho3 hb3 d1
  go_wp2_with fail
  refine (seen_any s w3).mono ?_
  rintro e w4 ⟨rfl, hb4⟩
  have HB4 : Hid (Below w3.heap.size w3 w4) := hb4
  have hz4 : w3.heap.size ≤ w4.heap.size := hb4.size
  clear hb4
  have O4 : Hid (w4.ownsRow B 43 4 (.slice (some ⟨g3, 0, none⟩) ms.length c3) ms.length (cellsOf ms)) := (Kept.of_below (S := fun _ => False) HB4.out).row O3.out (fun _ _ h => h)
  have hT3 : Hid (T ≠ g3) := by
    intro e
    rcases hg3 with h | h
    · exact HA.out.2.1 (e.trans h)
    · have := HA.out.2.2.2.2.2.2.1; omega
  have P14 : Hid (w4.heap[T]? = some (.cells (tabCells bm gs cs ms.length gt ct td.length ya yc) 30 (0, 0))) := (Kept.of_below (S := fun _ => False) HB4.out).heap ((Kept.of_below (S := fun _ => False) HB3.out).heap P1.out (fun h => h)) (fun h => h)
  have hg3' : Hid (g3 = gs ∨ w2.heap.size ≤ g3) := hg3
  clear hg3
  obtain ⟨i0, hi, hi0, hi1, hi2⟩ := info_parts info43
  go_wp2_with (at_builtin; refine wpList_append_lies _ rfl _ _ 27 rfl B 43 i0 (.agg #[.string ⟨#[]⟩, .int .i64 0, .int .i64 0, .int .u64 0]) 4 40 Yba.underlying27 hi hi0 hi1 hi2 rfl (by decide) (.slice (some ⟨g3, 0, none⟩) ms.length c3) ms.length _ rfl (O4.out.alloc _) ⟨w4.heap.size, 0, none⟩ 1 1 (memCells (s, 0, 0)) rfl rfl (fun j u h => World.news_of_block (heap_alloc_new w4 _) j u h) (by intro u hu; simp [memCells] at hu; rcases hu with rfl | rfl | rfl | rfl <;> rfl) (by decide) (by unfold maxLen; omega) (by omega) (by simp; omega) (w4.heap.size + 1) (by simp) ?_; intro g5 c5 w5 ho5 hgr5 hat5 hlt5; obtain ⟨d5, f5⟩ := tab_store HA.out.2.2.2.2.2.2.1 hz2 hz3 hz4 P14.out hT3.out hgr5)
  go_ret
  exact ⟨congrArg (fun z => Ending.returned (.int .i64 z)) (by omega), g5, c5, add_end HB1.out HK2.out HA.out P1.out P3.out HM2.out hg3'.out HB3.out HB4.out ho5 hgr5 hat5 T1.out.2.2.2.2⟩

/-- 'add': the member's place; the table behind it. -/
theorem add_any (B : Nat) (T bm gs cs gt ct : Nat) (ya : Option Addr) (yc : Nat) (ms : List Mem) (td : List Int) (s : ByteArray) (w : World) (hB : B ≤ w.heap.size)
    (h : Tab B w T bm gs cs gt ct ya yc ms td) (hs : s.size ≤ 140737488355328) (hn : ms.length ≤ 5000) :
    Calls Yba.prog 5 #[.pointer (some ⟨T, 0, none⟩), .string s] w fun e w' => e = .returned (.int .i64 (pos (idsOf ms) s : Int)) ∧ ∃ gs' cs', Tab B w' T bm gs' cs' gt ct ya yc (addM ms s) td ∧ Kept w w' (fun k => k = T ∨ k = bm ∨ k = gs) ∧ (gs' = gs ∨ w.heap.size ≤ gs') := by
  by_cases hp : pos (idsOf ms) s < ms.length
  · refine (add_hit B T bm gs cs gt ct ya yc ms td s w h hs hn hp).mono ?_
    rintro e w' ⟨rfl, rfl⟩
    refine ⟨rfl, gs, cs, ?_, Kept.refl _ _, .inl rfl⟩
    unfold addM
    rw [if_pos hp]
    exact h
  · refine (add_miss B T bm gs cs gt ct ya yc ms td s w hB h hs hn hp).mono ?_
    rintro e w' ⟨rfl, gs', cs', h1, h2, h3⟩
    have e : pos (idsOf ms) s = ms.length := by
      have := pos_le (idsOf ms) s
      rw [idsOf_length] at this
      omega
    refine ⟨by rw [e], gs', cs', ?_, h2, h3⟩
    unfold addM
    rw [if_neg hp]
    exact h1
end Go.Proofs.Ybulkdmoy
