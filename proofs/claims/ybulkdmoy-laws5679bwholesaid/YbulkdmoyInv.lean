import Derived.Test.YbulkdmoyRow
namespace Go.Proofs.Ybulkdmoy
open Go.ChangeShapes Go.WideShapes Go.ChangeAt Go.RowKit Go.WideMaps Go.Maps
set_option linter.unusedVariables false

/-! ### the law's own lists beside the table -/
def strs (ms : List Mem) : List Value := (idsOf ms).map Value.string
def dts (ms : List Mem) : List Value := ints (ms.map (·.2.1))
def lns (ms : List Mem) : List Value := ints (ms.map (·.2.2))

structure LRows (B : Nat) (w : World) (gt : Nat) (vi vd vl vt : Value) (ms : List Mem) (td : List Int) : Prop where
  ri : w.ownsRow B 9 1 vi ms.length (strs ms)
  rd : w.ownsRow B 2 1 vd ms.length (dts ms)
  rl : w.ownsRow B 3 1 vl ms.length (lns ms)
  rt : w.ownsRow B 3 1 vt td.length (ints td)
  a1 : ∀ g, vl.ownBlock = some g → g ≠ gt ∧ vt.ownBlock ≠ some g
  a2 : ∀ g, vt.ownBlock = some g → g ≠ gt

theorem own_heap {w : World} {B : Nat} {e : TypeId} {size : Nat} {v : Value} {n : Nat} {xs : List Value} (h : w.ownsRow B e size v n xs) (g : Nat) (hg : v.ownBlock = some g) : ∃ cur, w.heap[g]? = some (.cells cur e (0, 0)) ∧ B ≤ g ∧ g < w.heap.size := by
  rcases h.2 with ⟨rfl, _⟩ | ⟨g', cap', cur, rfl, hb, hh, _⟩
  · cases hg
  · cases hg; exact ⟨cur, hh, hb, (Array.getElem?_eq_some_iff.1 hh).1⟩
theorem tag_ne {w : World} {B B' : Nat} {e e' : TypeId} {size size' : Nat} {v v' : Value} {n n' : Nat} {xs xs' : List Value} (h : w.ownsRow B e size v n xs) (h' : w.ownsRow B' e' size' v' n' xs') (hne : e ≠ e') (g : Nat) (hg : v.ownBlock = some g) : v'.ownBlock ≠ some g := by
  intro hg'
  obtain ⟨c, h1, _⟩ := own_heap h g hg
  obtain ⟨c', h2, _⟩ := own_heap h' g hg'
  rw [h1] at h2
  cases h2
  exact hne rfl
/-- A row of another element type, or the law's own, is none of the table's blocks. -/
theorem far_tab {B : Nat} {w : World} {T bm gs cs gt ct : Nat} {ya : Option Addr} {yc : Nat} {ms ms' : List Mem} {td td' : List Int} (t : Tab B w T bm gs cs gt ct ya yc ms td) {e : TypeId} {v : Value} {n : Nat} {xs : List Value} (h : w.ownsRow B e 1 v n xs) (he : e ≠ 30 ∧ e ≠ 43) (g : Nat) (hg : v.ownBlock = some g) : g ≠ T ∧ g ≠ bm ∧ g ≠ gs := by
  obtain ⟨c, h1, _⟩ := own_heap h g hg
  obtain ⟨c2, e2, _⟩ := row_block t.2.1
  obtain ⟨D, ⟨es, clock, e4, _⟩, _⟩ := t.2.2.2.1
  refine ⟨?_, ?_, ?_⟩
  · rintro rfl; rw [t.1] at h1; cases h1; exact he.1 rfl
  · rintro rfl; rw [e4] at h1; cases h1
  · rintro rfl; rw [e2] at h1; cases h1; exact he.2 rfl
theorem far_gt {B : Nat} {w : World} {T bm gs cs gt ct : Nat} {ya : Option Addr} {yc : Nat} {ms : List Mem} {td : List Int} (t : Tab B w T bm gs cs gt ct ya yc ms td) {e : TypeId} {v : Value} {n : Nat} {xs : List Value} (h : w.ownsRow B e 1 v n xs) (he : e ≠ 3) (g : Nat) (hg : v.ownBlock = some g) : g ≠ gt := by
  obtain ⟨c, h1, _⟩ := own_heap h g hg
  obtain ⟨c3, e3, _⟩ := row_block t.2.2.1
  rintro rfl; rw [e3] at h1; cases h1; exact he rfl

theorem LRows.kept {B : Nat} {w w' : World} {S : Nat → Prop} {gt gt' : Nat} {vi vd vl vt : Value} {ms : List Mem} {td : List Int} (h : LRows B w gt vi vd vl vt ms td) (k : Kept w w' S)
    (hi : ∀ g, vi.ownBlock = some g → ¬ S g) (hd : ∀ g, vd.ownBlock = some g → ¬ S g) (hl : ∀ g, vl.ownBlock = some g → ¬ S g) (ht : ∀ g, vt.ownBlock = some g → ¬ S g) (hg : gt' = gt ∨ w.heap.size ≤ gt') : LRows B w' gt' vi vd vl vt ms td := by
  refine ⟨k.row h.ri hi, k.row h.rd hd, k.row h.rl hl, k.row h.rt ht, fun g e => ⟨?_, (h.a1 g e).2⟩, fun g e => ?_⟩
  · rcases hg with rfl | hg
    · exact (h.a1 g e).1
    · obtain ⟨_, _, _, hlt⟩ := own_heap h.rl g e; omega
  · rcases hg with rfl | hg
    · exact h.a2 g e
    · obtain ⟨_, _, _, hlt⟩ := own_heap h.rt g e; omega

/-- behind new blocks alone -/
theorem LRows.quiet {B : Nat} {w w' : World} {gt : Nat} {vi vd vl vt : Value} {ms : List Mem} {td : List Int} (h : LRows B w gt vi vd vl vt ms td) (k : Kept w w' (fun _ => False)) : LRows B w' gt vi vd vl vt ms td :=
  h.kept k (fun _ _ h => h) (fun _ _ h => h) (fun _ _ h => h) (fun _ _ h => h) (.inl rfl)
theorem Tab.quiet {B : Nat} {w w' : World} {T bm gs cs gt ct : Nat} {ya : Option Addr} {yc : Nat} {ms : List Mem} {td : List Int} (h : Tab B w T bm gs cs gt ct ya yc ms td) (k : Kept w w' (fun _ => False)) : Tab B w' T bm gs cs gt ct ya yc ms td :=
  h.kept k (fun h => h) (fun h => h) (fun h => h) (fun h => h)
/-- behind 'add' -/
theorem LRows.added {B : Nat} {w w' : World} {T bm gs cs gt ct : Nat} {ya : Option Addr} {yc : Nat} {vi vd vl vt : Value} {ms : List Mem} {td : List Int} (h : LRows B w gt vi vd vl vt ms td) (t : Tab B w T bm gs cs gt ct ya yc ms td) (k : Kept w w' (fun k => k = T ∨ k = bm ∨ k = gs)) : LRows B w' gt vi vd vl vt ms td := by
  have f : ∀ {e : TypeId} {v : Value} {n : Nat} {xs : List Value}, w.ownsRow B e 1 v n xs → e ≠ 30 ∧ e ≠ 43 → ∀ g, v.ownBlock = some g → ¬ (g = T ∨ g = bm ∨ g = gs) := by
    intro e v n xs ho he g hg
    obtain ⟨x1, x2, x3⟩ := far_tab (ms' := ms) (td' := td) t ho he g hg
    rintro (h | h | h)
    · exact x1 h
    · exact x2 h
    · exact x3 h
  exact h.kept k (f h.ri (by decide)) (f h.rd (by decide)) (f h.rl (by decide)) (f h.rt (by decide)) (.inl rfl)
/-- behind 'row' -/
theorem LRows.rowed {B : Nat} {w w' : World} {T bm gs cs gt ct gt' : Nat} {ya : Option Addr} {yc : Nat} {vi vd vl vt : Value} {ms : List Mem} {td : List Int} (h : LRows B w gt vi vd vl vt ms td) (t : Tab B w T bm gs cs gt ct ya yc ms td) (k : Kept w w' (fun k => k = T ∨ k = gs ∨ k = gt)) (hg : gt' = gt ∨ w.heap.size ≤ gt') : LRows B w' gt' vi vd vl vt ms td := by
  have f : ∀ {e : TypeId} {v : Value} {n : Nat} {xs : List Value}, w.ownsRow B e 1 v n xs → e ≠ 30 ∧ e ≠ 43 → (∀ g, v.ownBlock = some g → g ≠ gt) → ∀ g, v.ownBlock = some g → ¬ (g = T ∨ g = gs ∨ g = gt) := by
    intro e v n xs ho he hgt g hg
    obtain ⟨x1, x2, x3⟩ := far_tab (ms' := ms) (td' := td) t ho he g hg
    rintro (h | h | h)
    · exact x1 h
    · exact x3 h
    · exact hgt g hg h
  exact h.kept k (f h.ri (by decide) (far_gt t h.ri (by decide))) (f h.rd (by decide) (far_gt t h.rd (by decide))) (f h.rl (by decide) (fun g e => (h.a1 g e).1)) (f h.rt (by decide) h.a2) hg

/-! ### the appends, the stores -/
theorem kept_append {W w' : World} {o : Obj} {v : Value} (hg : (W.alloc o).grownBy w' v.ownBlock) : Kept W w' (fun k => v.ownBlock = some k) :=
  (Kept.alloc W o _).trans (.of_grown (S := fun k => v.ownBlock = some k) hg (fun k e => e)) (fun _ _ h => h)
/-- The table behind an append to, or a store into, one of the law's own lists. -/
theorem Tab.beside {B : Nat} {w w' : World} {S : Nat → Prop} {T bm gs cs gt ct : Nat} {ya : Option Addr} {yc : Nat} {ms : List Mem} {td : List Int} (t : Tab B w T bm gs cs gt ct ya yc ms td) (k : Kept w w' S) {e : TypeId} {v : Value} {n : Nat} {xs : List Value} (h : w.ownsRow B e 1 v n xs) (he : e ≠ 30 ∧ e ≠ 43) (hgt : ∀ g, v.ownBlock = some g → g ≠ gt) (hS : ∀ k, S k → v.ownBlock = some k) : Tab B w' T bm gs cs gt ct ya yc ms td := by
  have f := far_tab (ms' := ms) (td' := td) t h he
  exact t.kept k (fun h => (f _ (hS _ h)).1 rfl) (fun h => (f _ (hS _ h)).2.1 rfl) (fun h => (f _ (hS _ h)).2.2 rfl) (fun h => hgt _ (hS _ h) rfl)

theorem strs_snoc (ms : List Mem) (s : ByteArray) : strs (ms ++ [(s, 0, 0)]) = strs ms ++ [.string s] := by simp [strs, idsOf]
theorem dts_snoc (ms : List Mem) (s : ByteArray) : dts (ms ++ [(s, 0, 0)]) = dts ms ++ [.int .i64 0] := by simp [dts, ints]
theorem lns_snoc (ms : List Mem) (s : ByteArray) : lns (ms ++ [(s, 0, 0)]) = lns ms ++ [.int .i64 0] := by simp [lns, ints]
theorem dts_set (ms : List Mem) (p : Nat) (sid : ByteArray) (d l : Int) : dts (ms.set p (sid, d, l)) = (dts ms).set p (.int .i64 d) := by simp [dts, ints, List.map_set]
theorem lns_set (ms : List Mem) (p : Nat) (sid : ByteArray) (d l : Int) : lns (ms.set p (sid, d, l)) = (lns ms).set p (.int .i64 l) := by simp [lns, ints, List.map_set]
theorem strs_set (ms : List Mem) (p : Nat) (hp : p < ms.length) (sid : ByteArray) (dt ln d l : Int) (hm : ms[p] = (sid, dt, ln)) : strs (ms.set p (sid, d, l)) = strs ms := by
  unfold strs; rw [idsOf_set ms p hp sid dt ln d l hm]

section
variable {B : Nat} {T bm gs cs gt ct : Nat} {ya : Option Addr} {yc : Nat} {vi vd vl vt : Value} {ms ms' : List Mem} {td : List Int} {w2 w3 w4 w5 : World} {o1 o2 o3 : Obj}

theorem LRows.rd_after (r : LRows B w2 gt vi vd vl vt ms td) (g1 : (w2.alloc o1).grownBy w3 vi.ownBlock) : w3.ownsRow B 2 1 vd ms.length (dts ms) :=
  (kept_append g1).row r.rd (fun g e h => tag_ne r.rd r.ri (by decide) g e h)
theorem LRows.rl_after (r : LRows B w2 gt vi vd vl vt ms td) (g1 : (w2.alloc o1).grownBy w3 vi.ownBlock) (g2 : (w3.alloc o2).grownBy w4 vd.ownBlock) : w4.ownsRow B 3 1 vl ms.length (lns ms) := by
  have rl3 := (kept_append g1).row r.rl (fun g e h => tag_ne r.rl r.ri (by decide) g e h)
  exact (kept_append g2).row rl3 (fun g e h => tag_ne rl3 (r.rd_after g1) (by decide) g e h)

/-- Behind the three appends of a new member. -/
theorem three {gi ci gd cd gl cl : Nat} {s : ByteArray} (t : Tab B w2 T bm gs cs gt ct ya yc (ms ++ [(s, 0, 0)]) td) (r : LRows B w2 gt vi vd vl vt ms td)
    (g1 : (w2.alloc o1).grownBy w3 vi.ownBlock) (h1 : w3.ownsRow B 9 1 (.slice (some ⟨gi, 0, none⟩) (ms.length + 1) ci) (ms.length + 1) (strs ms ++ [.string s]))
    (g2 : (w3.alloc o2).grownBy w4 vd.ownBlock) (h2 : w4.ownsRow B 2 1 (.slice (some ⟨gd, 0, none⟩) (ms.length + 1) cd) (ms.length + 1) (dts ms ++ [.int .i64 0]))
    (g3 : (w4.alloc o3).grownBy w5 vl.ownBlock) (h3 : w5.ownsRow B 3 1 (.slice (some ⟨gl, 0, none⟩) (ms.length + 1) cl) (ms.length + 1) (lns ms ++ [.int .i64 0])) (hat : vl.ownBlock = some gl ∨ gl = w4.heap.size + 1) :
    Tab B w5 T bm gs cs gt ct ya yc (ms ++ [(s, 0, 0)]) td ∧ LRows B w5 gt (.slice (some ⟨gi, 0, none⟩) (ms.length + 1) ci) (.slice (some ⟨gd, 0, none⟩) (ms.length + 1) cd) (.slice (some ⟨gl, 0, none⟩) (ms.length + 1) cl) vt (ms ++ [(s, 0, 0)]) td ∧ Kept w2 w5 (fun k => B ≤ k) := by
  have K1 := kept_append g1
  have K2 := kept_append g2
  have K3 := kept_append g3
  have rd3 := r.rd_after g1
  have rl4 := r.rl_after g1 g2
  have rl3 := K1.row r.rl (fun g e h => tag_ne r.rl r.ri (by decide) g e h)
  have rt3 := K1.row r.rt (fun g e h => tag_ne r.rt r.ri (by decide) g e h)
  have rt4 := K2.row rt3 (fun g e h => tag_ne rt3 rd3 (by decide) g e h)
  have rt5 := K3.row rt4 (fun g e h => (r.a1 g h).2 e)
  have i4 := K2.row h1 (fun g e h => tag_ne h1 rd3 (by decide) g e h)
  have i5 := K3.row i4 (fun g e h => tag_ne i4 rl4 (by decide) g e h)
  have d5 := K3.row h2 (fun g e h => tag_ne h2 rl4 (by decide) g e h)
  have t3 := t.beside K1 r.ri (by decide) (far_gt t r.ri (by decide)) (fun _ h => h)
  have t4 := t3.beside K2 rd3 (by decide) (far_gt t3 rd3 (by decide)) (fun _ h => h)
  have t5 := t4.beside K3 rl4 (by decide) (fun g e => (r.a1 g e).1) (fun _ h => h)
  have lgt := t4.apart.2.2.2.2.2.2.2.2.2
  refine ⟨t5, ⟨?_, ?_, ?_, rt5, fun g e => ?_, r.a2⟩, ?_⟩
  · rw [List.length_append, strs_snoc]; exact i5
  · rw [List.length_append, dts_snoc]; exact d5
  · rw [List.length_append, lns_snoc]; exact h3
  · have e' : gl = g := by simpa [Value.ownBlock] using e
    subst e'
    rcases hat with h | h
    · exact r.a1 _ h
    · refine ⟨by omega, fun e2 => ?_⟩
      obtain ⟨_, _, _, hlt⟩ := own_heap rt4 _ e2
      omega
  · have b : ∀ {w : World} {e : TypeId} {v : Value} {n : Nat} {xs : List Value}, w.ownsRow B e 1 v n xs → ∀ k, v.ownBlock = some k → B ≤ k := fun h k hk => by obtain ⟨_, _, hb, _⟩ := own_heap h k hk; exact hb
    exact ((K1.mono (fun k _ h => b r.ri k h)).trans (K2.mono (S' := fun k => B ≤ k) (fun k _ h => b rd3 k h)) (fun _ _ h => h)).trans (K3.mono (S' := fun k => B ≤ k) (fun k _ h => b rl4 k h)) (fun _ _ h => h)

/-- Behind the stores and the append of a row. -/
theorem rowed {gd cd gl cl gT cT p : Nat} {sid : ByteArray} {dt ln d l : Int} (hp : p < ms.length) (hm : ms[p] = (sid, dt, ln))
    (t : Tab B w2 T bm gs cs gt ct ya yc (ms.set p (sid, d, l)) (td ++ [(p : Int)])) (r : LRows B w2 gt vi (.slice (some ⟨gd, 0, none⟩) ms.length cd) (.slice (some ⟨gl, 0, none⟩) ms.length cl) vt ms td)
    (g1 : (((w2.setCell ⟨gd, p, none⟩ (.int .i64 d)).setCell ⟨gl, p, none⟩ (.int .i64 l)).alloc o1).grownBy w4 vt.ownBlock)
    (h1 : w4.ownsRow B 3 1 (.slice (some ⟨gT, 0, none⟩) (td.length + 1) cT) (td.length + 1) (ints td ++ [.int .i64 (p : Int)])) (hat : vt.ownBlock = some gT ∨ gT = w2.heap.size + 1) :
    Tab B w4 T bm gs cs gt ct ya yc (ms.set p (sid, d, l)) (td ++ [(p : Int)]) ∧ LRows B w4 gt vi (.slice (some ⟨gd, 0, none⟩) ms.length cd) (.slice (some ⟨gl, 0, none⟩) ms.length cl) (.slice (some ⟨gT, 0, none⟩) (td.length + 1) cT) (ms.set p (sid, d, l)) (td ++ [(p : Int)]) ∧ Kept w2 w4 (fun k => B ≤ k) := by
  have K1 : Kept w2 (w2.setCell ⟨gd, p, none⟩ (.int .i64 d)) (fun k => k = gd) := .setCell _ _ _ rfl
  have rd3 := (r.rd.stored p (.int .i64 d)).1
  have ri3 := K1.row r.ri (fun g e h => tag_ne r.ri r.rd (by decide) g e (by subst h; rfl))
  have rl3 := K1.row r.rl (fun g e h => tag_ne r.rl r.rd (by decide) g e (by subst h; rfl))
  have rt3 := K1.row r.rt (fun g e h => tag_ne r.rt r.rd (by decide) g e (by subst h; rfl))
  have t3 := t.beside K1 r.rd (by decide) (far_gt t r.rd (by decide)) (fun _ h => by subst h; rfl)
  have K2 : Kept (w2.setCell ⟨gd, p, none⟩ (.int .i64 d)) ((w2.setCell ⟨gd, p, none⟩ (.int .i64 d)).setCell ⟨gl, p, none⟩ (.int .i64 l)) (fun k => k = gl) := .setCell _ _ _ rfl
  have rl4 := (rl3.stored p (.int .i64 l)).1
  have ri4 := K2.row ri3 (fun g e h => tag_ne ri3 rl3 (by decide) g e (by subst h; rfl))
  have rd4 := K2.row rd3 (fun g e h => tag_ne rd3 rl3 (by decide) g e (by subst h; rfl))
  have rt4 := K2.row rt3 (fun g e h => (r.a1 g (by subst h; rfl)).2 e)
  have t4 := t3.beside K2 rl3 (by decide) (fun g e => (r.a1 g e).1) (fun _ h => by subst h; rfl)
  have K3 := kept_append g1
  have ri5 := K3.row ri4 (fun g e h => tag_ne ri4 rt4 (by decide) g e h)
  have rd5 := K3.row rd4 (fun g e h => tag_ne rd4 rt4 (by decide) g e h)
  have rl5 := K3.row rl4 (fun g e h => (r.a1 g e).2 h)
  have t5 := t4.beside K3 rt4 (by decide) r.a2 (fun _ h => h)
  have lgt := t.apart.2.2.2.2.2.2.2.2.2
  have e2 : ints (td ++ [(p : Int)]) = ints td ++ [.int .i64 (p : Int)] := by simp [ints]
  refine ⟨t5, ⟨?_, ?_, ?_, ?_, fun g e => ⟨(r.a1 g e).1, fun e' => ?_⟩, fun g e => ?_⟩, ?_⟩
  · rw [List.length_set, strs_set ms p hp sid dt ln d l hm]; exact ri5
  · rw [List.length_set, dts_set]; exact rd5
  · rw [List.length_set, lns_set]; exact rl5
  · rw [List.length_append, e2]; exact h1
  · have e'' : gT = g := by simpa [Value.ownBlock] using e'
    subst e''
    rcases hat with h | h
    · exact (r.a1 _ e).2 h
    · obtain ⟨_, _, _, hlt⟩ := own_heap r.rl _ e
      omega
  · have e'' : gT = g := by simpa [Value.ownBlock] using e
    subst e''
    rcases hat with h | h
    · exact r.a2 _ h
    · omega
  · have b : ∀ {w : World} {e : TypeId} {v : Value} {n : Nat} {xs : List Value}, w.ownsRow B e 1 v n xs → ∀ k, v.ownBlock = some k → B ≤ k := fun h k hk => by obtain ⟨_, _, hb, _⟩ := own_heap h k hk; exact hb
    exact ((K1.mono (S' := fun k => B ≤ k) (fun k _ h => b r.rd k (by subst h; rfl))).trans (K2.mono (S' := fun k => B ≤ k) (fun k _ h => b rl3 k (by subst h; rfl))) (fun _ _ h => h)).trans (K3.mono (S' := fun k => B ≤ k) (fun k _ h => b rt4 k h)) (fun _ _ h => h)
end

theorem find_hit (B : Nat) (v : Value) (ids : List ByteArray) (s : ByteArray) (w : World) (hn : ids.length ≤ 1000000) (hown : w.ownsRow B 9 1 v ids.length (ids.map Value.string)) (hp : pos ids s < ids.length) :
    Calls Yba.prog 6 #[v, .string s] w fun e w' => e = .returned (.int .i64 (pos ids s : Int)) ∧ w' = w := by
  have := find_any B v ids s w hn hown
  unfold fnd at this
  rw [if_pos hp] at this
  exact this
theorem find_miss (B : Nat) (v : Value) (ids : List ByteArray) (s : ByteArray) (w : World) (hn : ids.length ≤ 1000000) (hown : w.ownsRow B 9 1 v ids.length (ids.map Value.string)) (hp : ¬ pos ids s < ids.length) :
    Calls Yba.prog 6 #[v, .string s] w fun e w' => e = .returned (.int .i64 (-1)) ∧ w' = w := by
  have := find_any B v ids s w hn hown
  unfold fnd at this
  rw [if_neg hp] at this
  exact this

theorem len_own {w : World} {B : Nat} {e t : TypeId} {size : Nat} {v : Value} {n : Nat} {xs : List Value} (ht : Yba.prog.underlying t = some (.slice e)) (h : w.ownsRow B e size v n xs) (ty : TypeId) (W : World) : (Builtin.len_ #[t] ty #[v]).run Yba.prog W = .ok (.int .i64 (n : Int)) W := by
  rcases row_form h with ⟨rfl, rfl, _⟩ | ⟨g, cap, rfl, _⟩
  · simp [Builtin.len_, run_underlying ht, goInt]
  · simp [Builtin.len_, run_underlying ht, goInt]
theorem idx_own {w : World} {B : Nat} {e t : TypeId} {v : Value} {n : Nat} {xs : List Value} (ht : Yba.prog.underlying t = some (.slice e)) (hz : ∀ W, (Go.sizeOf e).run Yba.prog W = .ok 1 W) (h : w.ownsRow B e 1 v n xs) (p : Nat) (hp : p < n) :
    ∃ g cap, v = .slice (some ⟨g, 0, none⟩) n cap ∧ (∀ W : World, (Instr.indexAt t v (.int .i64 (p : Int))).run Yba.prog W = .ok (.pointer (some ⟨g, p, none⟩)) W) := by
  rcases row_form h with ⟨rfl, rfl, _⟩ | ⟨g, cap, rfl, _⟩
  · omega
  · refine ⟨g, cap, rfl, fun W => ?_⟩
    have e1 : (0 : Int) ≤ (p : Int) ∧ (p : Int) < (n : Int) := by omega
    simp [Instr.indexAt, run_underlying ht, asIntOf, hz, e1, Addr.add, hp]
    omega
end Go.Proofs.Ybulkdmoy
