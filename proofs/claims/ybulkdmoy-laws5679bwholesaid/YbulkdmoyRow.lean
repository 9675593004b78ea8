import Derived.Test.YbulkdmoyAdd
namespace Go.Proofs.Ybulkdmoy
open Go.ChangeShapes Go.WideShapes Go.ChangeAt Go.RowKit Go.WideMaps Go.Maps
set_option linter.unusedVariables false

/-! ### row -/
theorem cellsOf_length (ms : List Mem) : (cellsOf ms).length = ms.length * 4 := by
  induction ms with
  | nil => rfl
  | cons m r ih => rw [show cellsOf (m :: r) = memCells m ++ cellsOf r from rfl, List.length_append, ih]; simp [memCells]; omega
theorem cellsOf_at : ∀ (ms : List Mem) (p j : Nat) (hp : p < ms.length) (hj : j < 4), (cellsOf ms)[p * 4 + j]? = (memCells ms[p])[j]?
  | m :: r, 0, j, _, hj => by
    show (memCells m ++ cellsOf r)[0 * 4 + j]? = _
    rw [List.getElem?_append_left (by simp [memCells]; omega)]
    simp
  | m :: r, p + 1, j, hp, hj => by
    show (memCells m ++ cellsOf r)[(p + 1) * 4 + j]? = _
    have hp' : p < r.length := by simpa using hp
    rw [List.getElem?_append_right (by simp [memCells]; omega), show (p + 1) * 4 + j - (memCells m).length = p * 4 + j by simp [memCells]; omega, cellsOf_at r p j hp' hj]
    rfl
theorem row_cell {w : World} {B gs cs n : Nat} {ms : List Mem} (h : w.ownsRow B 43 4 (.slice (some ⟨gs, 0, none⟩) ms.length cs) ms.length (cellsOf ms)) (p j : Nat) (hp : p < ms.length) (hj : j < 4) : w.cell? ⟨gs, p * 4 + j, none⟩ = (memCells ms[p])[j]? := by
  rw [h.cellAt (p * 4 + j) (by omega), cellsOf_at ms p j hp hj]

/-- What the walk of 'row' reads of the table. -/
structure RowAt (w : World) (T bm gs cs gt ct n k p : Nat) (sid : ByteArray) (dt ln : Int) : Prop where
  c1 : w.cell? ⟨T, 1, none⟩ = some (.slice (some ⟨gs, 0, none⟩) n cs)
  c2 : w.cell? ⟨T, 2, none⟩ = some (.slice (some ⟨gt, 0, none⟩) k ct)
  f : ∀ j, w.frozen? ⟨T, j, none⟩ = false
  k1 : w.cell? ⟨gs, p * 4 + 1, none⟩ = some (.int .i64 dt)
  k2 : w.cell? ⟨gs, p * 4 + 2, none⟩ = some (.int .i64 ln)
  fs : ∀ j, w.frozen? ⟨gs, j, none⟩ = false
  hcs : n ≤ cs ∧ cs ≤ 9223372036854775807
  hgs : gs < w.heap.size
  hT : T < w.heap.size
  hne : T ≠ gs

theorem Tab.rowAt {B : Nat} {w : World} {T bm gs cs gt ct : Nat} {ya : Option Addr} {yc : Nat} {ms : List Mem} {td : List Int} (h : Tab B w T bm gs cs gt ct ya yc ms td) (p : Nat) (hp : p < ms.length) (sid : ByteArray) (dt ln : Int) (hm : ms[p] = (sid, dt, ln)) :
    RowAt w T bm gs cs gt ct ms.length td.length p sid dt ln := by
  obtain ⟨c0, c1, c2, _, f⟩ := h.cells
  have ha := h.apart
  have hcs : ms.length ≤ cs ∧ cs ≤ 9223372036854775807 := by
    rcases row_form h.2.1 with ⟨h, _⟩ | ⟨g', c', h, h1, h2, _⟩
    · cases h
    · cases h; unfold maxLen at h2; exact ⟨h1, by omega⟩
  refine ⟨c1, c2, f, ?_, ?_, fun j => h.2.1.frozenAt j, hcs, ha.2.2.2.2.2.2.2.2.1, ha.2.2.2.2.2.2.1, ha.2.1⟩
  · have := row_cell (n := 0) h.2.1 p 1 hp (by omega); rw [hm] at this; exact this
  · have := row_cell (n := 0) h.2.1 p 2 hp (by omega); rw [hm] at this; exact this

theorem row_hit (T bm gs cs gt ct n k p : Nat) (sid : ByteArray) (dt ln : Int) (d l : Int) (w : World)
    (h : RowAt w T bm gs cs gt ct n k p sid dt ln) (hn : n ≤ 5000) (hp : p < n) (hl : (ln != 0) = true) (hd : (dt == d) = true) :
    Calls Yba.prog 7 #[.pointer (some ⟨T, 0, none⟩), .int .i64 (p : Int), .agg #[.int .i64 d], .int .i64 l] w fun e w' => e = .returned (.tuple #[.int .i64 ln, .bool true]) ∧ Kept w w' (fun _ => False) := by
  obtain ⟨c1, c2, f, k1, k2, fs, hcs, hgs, hT, hne⟩ := h
  have hpi : (0 : Int) ≤ (p : Int) := by omega
  have hpj : (p : Int) < (n : Int) := by omega
  go_enter Yba.func7, Yba.ntmps7
  go_wp2_with fail
  go_quiet (fail)
  go_wp2_with fail
  go_ret2
  refine ⟨rfl, ?_⟩
  exact (Kept.alloc w _ _).trans (Kept.drewN _ _ (fun _ => False)) (fun _ _ h => h)

theorem cellsOf_set : ∀ (ms : List Mem) (p : Nat) (hp : p < ms.length) (sid : ByteArray) (dt ln d l : Int) (hm : ms[p] = (sid, dt, ln)),
    ((cellsOf ms).set (p * 4 + 1) (.int .i64 d)).set (p * 4 + 2) (.int .i64 l) = cellsOf (ms.set p (sid, d, l))
  | m :: r, 0, _, sid, dt, ln, d, l, hm => by
    have hm' : m = (sid, dt, ln) := hm
    subst hm'
    rfl
  | m :: r, p + 1, hp, sid, dt, ln, d, l, hm => by
    have ih := cellsOf_set r p (by simpa using hp) sid dt ln d l hm
    show (((memCells m ++ cellsOf r)).set ((p + 1) * 4 + 1) (.int .i64 d)).set ((p + 1) * 4 + 2) (.int .i64 l) = memCells m ++ cellsOf (r.set p (sid, d, l))
    rw [← ih, show (p + 1) * 4 + 1 = p * 4 + 1 + 4 by omega, show (p + 1) * 4 + 2 = p * 4 + 2 + 4 by omega]
    rfl

theorem idsOf_set (ms : List Mem) (p : Nat) (hp : p < ms.length) (sid : ByteArray) (dt ln d l : Int) (hm : ms[p] = (sid, dt, ln)) : idsOf (ms.set p (sid, d, l)) = idsOf ms := by
  unfold idsOf
  rw [List.map_set]
  have : (ms.map (·.1))[p]? = some sid := by rw [List.getElem?_map, List.getElem?_eq_getElem hp, hm]; rfl
  obtain ⟨h1, h2⟩ := List.getElem?_eq_some_iff.1 this
  show (ms.map (·.1)).set p sid = _
  rw [← h2, List.set_getElem_self]

theorem row_stored {B : Nat} {w w1 : World} {T bm gs cs gt ct : Nat} {ya : Option Addr} {yc : Nat} {ms : List Mem} {td : List Int} (h : Tab B w T bm gs cs gt ct ya yc ms td) (p : Nat) (hp : p < ms.length) (sid : ByteArray) (dt ln d l : Int) (hm : ms[p] = (sid, dt, ln)) (k1 : Kept w w1 (fun _ => False)) :
    Tab B ((w1.setCell ⟨gs, p * 4 + 1, none⟩ (.int .i64 d)).setCell ⟨gs, p * 4 + 2, none⟩ (.int .i64 l)) T bm gs cs gt ct ya yc (ms.set p (sid, d, l)) td ∧ Kept w ((w1.setCell ⟨gs, p * 4 + 1, none⟩ (.int .i64 d)).setCell ⟨gs, p * 4 + 2, none⟩ (.int .i64 l)) (fun k => k = gs) := by
  have h1 := h.kept k1 (fun h => h) (fun h => h) (fun h => h) (fun h => h)
  have ha := h.apart
  obtain ⟨a1, a2, a3, a4, a5, a6, _⟩ := ha
  have kA : Kept w1 ((w1.setCell ⟨gs, p * 4 + 1, none⟩ (.int .i64 d)).setCell ⟨gs, p * 4 + 2, none⟩ (.int .i64 l)) (fun k => k = gs) :=
    (Kept.setCell w1 ⟨gs, p * 4 + 1, none⟩ (.int .i64 d) (S := fun k => k = gs) rfl).trans (Kept.setCell _ ⟨gs, p * 4 + 2, none⟩ (.int .i64 l) (S := fun k => k = gs) rfl) (fun _ _ h => h)
  obtain ⟨b1, b2, b3, b4, b5⟩ := h1
  refine ⟨⟨?_, ?_, kA.row b3 (fun j hj => by cases hj; exact Ne.symm a6), ?_, b5⟩, (k1.mono (fun _ _ h => h.elim)).trans kA (fun _ _ h => h)⟩
  · rw [List.length_set]
    exact kA.heap b1 a2
  · rw [List.length_set, ← cellsOf_set ms p hp sid dt ln d l hm]
    exact ((b2.stored (p * 4 + 1) (.int .i64 d)).1.stored (p * 4 + 2) (.int .i64 l)).1
  · rw [idsOf_set ms p hp sid dt ln d l hm]
    exact b4.kept kA a4

/-- The table behind 't.today = doubled(t.today)'. -/
theorem row_doubled {B : Nat} {w w5 : World} {T bm gs cs gt ct g5 c5 : Nat} {ya : Option Addr} {yc : Nat} {ms : List Mem} {td : List Int} (h : Tab B w T bm gs cs gt ct ya yc ms td)
    (hb : Below w.heap.size w w5) (ho : w5.ownsRow B 3 1 (.slice (some ⟨g5, 0, none⟩) td.length c5) td.length (ints td)) (hg : g5 = gt ∨ w.heap.size ≤ g5) :
    Tab B (w5.setCell ⟨T, 2, none⟩ (.slice (some ⟨g5, 0, none⟩) td.length c5)) T bm gs cs g5 c5 ya yc ms td ∧ Kept w (w5.setCell ⟨T, 2, none⟩ (.slice (some ⟨g5, 0, none⟩) td.length c5)) (fun k => k = T) := by
  obtain ⟨b1, b2, b3, b4, b5⟩ := h.kept (.of_below (S := fun _ => False) hb) (fun h => h) (fun h => h) (fun h => h) (fun h => h)
  obtain ⟨a1, a2, a3, a4, a5, a6, l1, l2, l3, l4⟩ := h.apart
  have kS : Kept w5 (w5.setCell ⟨T, 2, none⟩ (.slice (some ⟨g5, 0, none⟩) td.length c5)) (fun k => k = T) := .setCell w5 _ _ rfl
  have nT : ¬ g5 = T := fun e => by rcases hg with h | h; exact a3 (e.symm.trans h); omega
  refine ⟨⟨?_, kS.row b2 (fun j hj => by cases hj; exact Ne.symm a2), kS.row ho (fun j hj => by cases hj; exact nT), b4.kept kS (Ne.symm a1), b5⟩, (Kept.of_below (S := fun k => k = T) hb).trans kS (fun _ _ h => h)⟩
  rw [heap_setCell_same w5 T 2 _ 30 _ b1]
  rfl

theorem tab_store2 {B : Nat} {w w5 : World} {T bm gs cs gt ct : Nat} {ya : Option Addr} {yc : Nat} {ms : List Mem} {td : List Int} {o : Obj} (h : Tab B w T bm gs cs gt ct ya yc ms td)
    (hg : (w.alloc o).grownBy w5 (Value.ownBlock (.slice (some ⟨gt, 0, none⟩) td.length ct))) : w5.cell? ⟨T, 2, none⟩ = some (.slice (some ⟨gt, 0, none⟩) td.length ct) ∧ w5.frozen? ⟨T, 2, none⟩ = false := by
  obtain ⟨a1, a2, a3, a4, a5, a6, l1, l2, l3, l4⟩ := h.apart
  have h5 : w5.heap[T]? = some (.cells (tabCells bm gs cs ms.length gt ct td.length ya yc) 30 (0, 0)) := by
    rw [hg.block T (by simp; omega) (by simp [Value.ownBlock, a3]), Below.heap_alloc _ _ _ (by omega)]
    exact h.1
  exact ⟨by rw [cell_of_row w5 T _ _ 30 (0, 0) h5]; rfl, frozen_of_row w5 T 2 _ 30 h5⟩

/-- The table behind 't.today = append(t.today, place)'. -/
theorem row_end {B : Nat} {w w8 : World} {T bm gs cs gt ct g8 c8 p : Nat} {ya : Option Addr} {yc : Nat} {ms : List Mem} {td : List Int} {o : Obj} (h : Tab B w T bm gs cs gt ct ya yc ms td)
    (ho : w8.ownsRow B 3 1 (.slice (some ⟨g8, 0, none⟩) (td.length + 1) c8) (td.length + 1) (ints td ++ [.int .i64 (p : Int)]))
    (hgr : (w.alloc o).grownBy w8 (Value.ownBlock (.slice (some ⟨gt, 0, none⟩) td.length ct))) (hat : Value.ownBlock (.slice (some ⟨gt, 0, none⟩) td.length ct) = some g8 ∨ g8 = w.heap.size + 1) :
    Tab B (w8.setCell ⟨T, 2, none⟩ (.slice (some ⟨g8, 0, none⟩) (td.length + 1) c8)) T bm gs cs g8 c8 ya yc ms (td ++ [(p : Int)]) ∧ Kept w (w8.setCell ⟨T, 2, none⟩ (.slice (some ⟨g8, 0, none⟩) (td.length + 1) c8)) (fun k => k = T ∨ k = gt) ∧ (g8 = gt ∨ w.heap.size ≤ g8) := by
  obtain ⟨a1, a2, a3, a4, a5, a6, l1, l2, l3, l4⟩ := h.apart
  have kA : Kept w w8 (fun k => k = gt) := (Kept.alloc w o (fun k => k = gt)).trans (.of_grown (S := fun k => k = gt) hgr (fun k e => by simp [Value.ownBlock] at e; exact e.symm)) (fun _ _ h => h)
  obtain ⟨b1, b2, b3, b4, b5⟩ := h
  have h8 : g8 = gt ∨ g8 = w.heap.size + 1 := hat.imp (fun e => by simp [Value.ownBlock] at e; exact e.symm) id
  have nT : ¬ g8 = T := fun e => by rcases h8 with h | h; exact a3 (e.symm.trans h); omega
  have q1 := kA.heap b1 a3
  have kS : Kept w8 (w8.setCell ⟨T, 2, none⟩ (.slice (some ⟨g8, 0, none⟩) (td.length + 1) c8)) (fun k => k = T) := .setCell w8 _ _ rfl
  refine ⟨⟨?_, kS.row (kA.row b2 (fun j hj => by cases hj; exact a6)) (fun j hj => by cases hj; exact Ne.symm a2), ?_, (b4.kept kA a5).kept kS (Ne.symm a1), b5⟩, (kA.mono (fun k _ h => .inr h)).trans kS (fun k _ h => .inl h), h8.imp id (fun e => by omega)⟩
  · rw [heap_setCell_same w8 T 2 _ 30 _ q1, List.length_append]
    rfl
  · rw [List.length_append, show ints (td ++ [(p : Int)]) = ints td ++ [.int .i64 (p : Int)] by simp [ints]]
    exact kS.row ho (fun j hj => by cases hj; exact nT)

theorem size_setCell (w : World) (a : Addr) (v : Value) : (w.setCell a v).heap.size = w.heap.size := by simp [World.setCell]
theorem news_set (w5 : World) (a : Addr) (v x : Value) (t : TypeId) : ∀ j u, [x][j]? = some u → ((w5.setCell a v).alloc (.cells #[x] t)).cell? ((⟨w5.heap.size, 0, none⟩ : Addr).add j) = some u := by
  rw [← size_setCell w5 a v]
  exact cell_one_new _ _ _

set_option maxHeartbeats 2000000 in
theorem row_miss (B : Nat) (T bm gs cs gt ct : Nat) (ya : Option Addr) (yc : Nat) (ms : List Mem) (td : List Int) (p : Nat) (sid : ByteArray) (dt ln d l : Int) (w : World) (hB : B ≤ w.heap.size)
    (h : Tab B w T bm gs cs gt ct ya yc ms td) (hn : ms.length ≤ 5000) (hk : td.length ≤ 5000) (hp : p < ms.length) (hm : ms[p] = (sid, dt, ln)) (hl : (ln != 0) = false ∨ ((ln != 0) = true ∧ (dt == d) = false)) :
    Calls Yba.prog 7 #[.pointer (some ⟨T, 0, none⟩), .int .i64 (p : Int), .agg #[.int .i64 d], .int .i64 l] w fun e w' => e = .returned (.tuple #[.int .i64 0, .bool false]) ∧ ∃ gt' ct', Tab B w' T bm gs cs gt' ct' ya yc (ms.set p (sid, d, l)) (td ++ [(p : Int)]) ∧ Kept w w' (fun k => k = T ∨ k = gs ∨ k = gt) ∧ (gt' = gt ∨ w.heap.size ≤ gt') := by
  have HT : Hid (Tab B w T bm gs cs gt ct ya yc ms td) := h
  have HM : Hid (ms[p] = (sid, dt, ln)) := hm
  have hp' : p < ms.length := hp
  obtain ⟨c1, c2, f, k1, k2, fs, hcs, hgs, hT, hne⟩ := h.rowAt p hp sid dt ln hm
  have hpi : (0 : Int) ≤ (p : Int) := by omega
  have hpj : (p : Int) < (ms.length : Int) := by omega
  clear h hm
  obtain ⟨i0, hi, hi0, hi1, hi2⟩ := info_parts info3
  rcases hl with hl | ⟨hl, hd⟩
  all_goals
    go_enter Yba.func7, Yba.ntmps7
    go_wp2_with fail
    go_quiet (fail)
    go_wp2_with fail
    obtain ⟨w3, hw3⟩ : ∃ w3, w3 = (((w.alloc (.cells #[.int .i64 d] 40)).drewN nq).setCell ⟨gs, p * 4 + 1, none⟩ (.int .i64 d)).setCell ⟨gs, p * 4 + 2, none⟩ (.int .i64 l) := ⟨_, rfl⟩
    have E3 := row_stored HT.out p hp' sid dt ln d l HM.out ((Kept.alloc w (.cells #[.int .i64 d] 40) (fun _ => False)).trans (Kept.drewN _ nq (fun _ => False)) (fun _ _ h => h))
    rw [← hw3] at E3 ⊢
    have T3 : Hid (Tab B w3 T bm gs cs gt ct ya yc (ms.set p (sid, d, l)) td) := E3.1
    have K3 : Hid (Kept w w3 (fun k => k = gs)) := E3.2
    have hz3 : w.heap.size ≤ w3.heap.size := E3.2.size
    clear hw3 E3 c1 c2 f k1 k2 fs hcs hgs hT hne
    obtain ⟨_, _, c2, _, f⟩ := T3.out.cells
    by_cases he : td.length = ct
    · have heq : ((td.length : Int) == (ct : Int)) = true := by rw [he]; simp
      clear he
      go_quiet (fail)
      obtain ⟨w4, hw4⟩ : ∃ w4, w4 = w3.drewN nq := ⟨_, rfl⟩
      rw [← hw4]
      have T4 : Hid (Tab B w4 T bm gs cs gt ct ya yc (ms.set p (sid, d, l)) td) := by rw [hw4]; exact T3.out.kept (.drewN w3 nq (fun _ => False)) (fun h => h) (fun h => h) (fun h => h) (fun h => h)
      have K4 : Hid (Kept w w4 (fun k => k = gs)) := by rw [hw4]; exact K3.out.trans (.drewN w3 nq (fun k => k = gs)) (fun _ _ h => h)
      have hz4 : w.heap.size ≤ w4.heap.size := K4.out.size
      clear hw4 c2 f T3 K3 hz3 heq
      obtain ⟨_, _, c2, _, f⟩ := T4.out.cells
      go_wp2_with fail
      refine (dbl12_any B gt td.length ct w4 (ints td) (by omega) T4.out.2.2.1 (by omega)).mono ?_
      rintro e w5 ⟨g5, c5, rfl, ho5, hb5, hg5⟩
      have E6 := row_doubled T4.out hb5 ho5 hg5
      have T6 : Hid (Tab B (w5.setCell ⟨T, 2, none⟩ (.slice (some ⟨g5, 0, none⟩) td.length c5)) T bm gs cs g5 c5 ya yc (ms.set p (sid, d, l)) td) := E6.1
      have K6 : Hid (Kept w (w5.setCell ⟨T, 2, none⟩ (.slice (some ⟨g5, 0, none⟩) td.length c5)) (fun k => k = T ∨ k = gs ∨ k = gt)) := (K4.out.mono (fun k _ h => .inr (.inl h))).trans E6.2 (fun k _ h => .inl h)
      have HG5 : Hid (g5 = gt ∨ w.heap.size ≤ g5) := hg5.imp id (fun h => by omega)
      have e5 : w5.cell? ⟨T, 2, none⟩ = some (.slice (some ⟨gt, 0, none⟩) td.length ct) := (Kept.of_below (S := fun _ => False) hb5).cell c2 (fun h => h)
      have f5 : w5.frozen? ⟨T, 2, none⟩ = false := by rw [hb5.frozen (p := ⟨T, 2, none⟩) T4.out.apart.2.2.2.2.2.2.1]; exact f 2
      have hz5 : w.heap.size ≤ w5.heap.size := Nat.le_trans hz4 hb5.size
      clear E6 ho5 hb5 hg5 c2 f T4 K4 hz4
      go_wp2_with (at_builtin; refine wpList_append_lies _ rfl _ _ 28 rfl B 3 i0 (.int .i64 0) 1 8 Yba.underlying28 hi hi0 hi1 hi2 rfl (by decide) (.slice (some ⟨g5, 0, none⟩) td.length c5) td.length _ rfl (T6.out.2.2.1.alloc _) ⟨w5.heap.size, 0, none⟩ 1 1 [.int .i64 (p : Int)] rfl rfl (news_set _ _ _ _ _) (ints_oneCell .i64 [(p : Int)]) (by decide) (by unfold maxLen; omega) (by omega) (by simp; omega) (w5.heap.size + 1) (by simp) ?_; intro g8 c8 w8 ho8 hgr8 hat8 hlt8; obtain ⟨d8, f8⟩ := tab_store2 T6.out hgr8)
      go_ret2
      have E := row_end T6.out ho8 hgr8 (by rw [size_setCell]; exact hat8)
      refine ⟨rfl, g8, c8, E.1, K6.out.trans E.2.1 (fun k hk h => ?_), ?_⟩
      · rcases h with h | h
        · exact .inl h
        · rcases HG5.out with e | e
          · exact .inr (.inr (h.trans e))
          · omega
      · rcases E.2.2 with h | h
        · rcases HG5.out with e | e
          · exact .inl (h.trans e)
          · exact .inr (by omega)
        · rw [size_setCell] at h
          exact .inr (by omega)
    · have heq : ((td.length : Int) == (ct : Int)) = false := by simp; omega
      clear he
      go_quiet (fail)
      obtain ⟨w4, hw4⟩ : ∃ w4, w4 = w3.drewN nq := ⟨_, rfl⟩
      rw [← hw4]
      have T4 : Hid (Tab B w4 T bm gs cs gt ct ya yc (ms.set p (sid, d, l)) td) := by rw [hw4]; exact T3.out.kept (.drewN w3 nq (fun _ => False)) (fun h => h) (fun h => h) (fun h => h) (fun h => h)
      have K4 : Hid (Kept w w4 (fun k => k = gs)) := by rw [hw4]; exact K3.out.trans (.drewN w3 nq (fun k => k = gs)) (fun _ _ h => h)
      have hz4 : w.heap.size ≤ w4.heap.size := K4.out.size
      clear hw4 c2 f T3 K3 hz3 heq
      obtain ⟨_, _, c2, _, f⟩ := T4.out.cells
      go_wp2_with (at_builtin; refine wpList_append_lies _ rfl _ _ 28 rfl B 3 i0 (.int .i64 0) 1 8 Yba.underlying28 hi hi0 hi1 hi2 rfl (by decide) (.slice (some ⟨gt, 0, none⟩) td.length ct) td.length _ rfl (T4.out.2.2.1.alloc _) ⟨w4.heap.size, 0, none⟩ 1 1 [.int .i64 (p : Int)] rfl rfl (cell_one_new _ _ _) (ints_oneCell .i64 [(p : Int)]) (by decide) (by unfold maxLen; omega) (by omega) (by simp; omega) (w4.heap.size + 1) (by simp) ?_; intro g8 c8 w8 ho8 hgr8 hat8 hlt8; obtain ⟨d8, f8⟩ := tab_store2 T4.out hgr8)
      go_ret2
      have E := row_end T4.out ho8 hgr8 hat8
      refine ⟨rfl, g8, c8, E.1, (K4.out.mono (fun k _ h => .inr (.inl h))).trans E.2.1 (fun k hk h => ?_), ?_⟩
      · rcases h with h | h
        · exact .inl h
        · exact .inr (.inr h)
      · rcases E.2.2 with h | h
        · exact .inl h
        · exact .inr (by omega)
end Go.Proofs.Ybulkdmoy
