import Derived.Test.YbulkdmoySeen
namespace Go.Proofs.Ybulkdmoy
open Go.ChangeShapes Go.WideShapes Go.ChangeAt Go.RowKit Go.WideMaps Go.Maps
set_option linter.unusedVariables false

/-! ### the index -/
theorem law9 : Keyed Yba.prog 9 := string_keyed Yba.underlying9
theorem zero3 (w : World) : (zeroValue 3).run Yba.prog w = .ok (.int .i64 0) w := by kernel_rfl
/-- a string as a key -/
def keyL (s : ByteArray) : Lit := .string s.data.toList
theorem keyL_ne {s t : ByteArray} (h : (s.toList == t.toList) = false) : keyL t ≠ keyL s := by
  intro e
  have e' : t.data.toList = s.data.toList := by unfold keyL at e; injection e
  rw [Lib.toList_data, Lib.toList_data, e'] at h
  simp at h
theorem keyL_eq {s t : ByteArray} (h : (s.toList == t.toList) = true) : keyL t = keyL s := by
  have := eq_of_beq h
  rw [Lib.toList_data, Lib.toList_data] at this
  unfold keyL
  rw [this]

theorem pos_snoc_old (ids : List ByteArray) (s t : ByteArray) (h : pos ids t < ids.length) : pos (ids ++ [s]) t = pos ids t := by
  unfold pos at *
  rw [List.findIdx_append, if_pos h]
theorem pos_snoc_new (ids : List ByteArray) (s t : ByteArray) (h : ¬ pos ids t < ids.length) (he : (s.toList == t.toList) = true) : pos (ids ++ [s]) t = ids.length := by
  unfold pos at *
  rw [List.findIdx_append, if_neg h]
  simp [List.findIdx_cons, he]
theorem pos_snoc_out (ids : List ByteArray) (s t : ByteArray) (h : ¬ pos ids t < ids.length) (he : (s.toList == t.toList) = false) : pos (ids ++ [s]) t = ids.length + 1 := by
  unfold pos at *
  rw [List.findIdx_append, if_neg h]
  simp [List.findIdx_cons, he]
  omega

/-- Block bm of w is the index of the ids: each at its place. -/
def MapIs (w : World) (bm : Nat) (ids : List ByteArray) : Prop :=
  ∃ D : DataW Unit, w.ownsMap Yba.prog 9 (plainElem Yba.prog 3) bm ids.length D ∧ Maps.size D = ids.length ∧
    (∀ s : ByteArray, s.size ≤ maxLen → Maps.has D (keyL s) = decide (pos ids s < ids.length)) ∧
    (∀ s : ByteArray, s.size ≤ maxLen → D.atKey (keyL s) (.lit (.int .i64 0)) = .lit (.int .i64 (if pos ids s < ids.length then (pos ids s : Int) else 0)))

theorem MapIs.made (w : World) : MapIs (w.alloc (.map #[] 0)) w.heap.size [] :=
  ⟨.map [], World.ownsMap_made _ _ _ _, rfl, fun _ _ => rfl, fun _ _ => rfl⟩
theorem MapIs.kept {w w' : World} {S : Nat → Prop} {bm : Nat} {ids : List ByteArray} (h : MapIs w bm ids) (k : Kept w w' S) (hn : ¬ S bm) : MapIs w' bm ids := by
  obtain ⟨D, h1, h2⟩ := h
  exact ⟨D, k.map h1 hn, h2⟩
theorem MapIs.lt {w : World} {bm : Nat} {ids : List ByteArray} (h : MapIs w bm ids) : bm < w.heap.size := by
  obtain ⟨D, h1, h2⟩ := h
  exact h1.lt
theorem MapIs.look {w : World} {bm : Nat} {ids : List ByteArray} (h : MapIs w bm ids) (s : ByteArray) (hs : s.size ≤ maxLen) :
    (Instr.lookup 26 (.map (some bm)) (.string s) true).run Yba.prog w = .ok (.tuple #[.int .i64 (if pos ids s < ids.length then (pos ids s : Int) else 0), .bool (decide (pos ids s < ids.length))]) w := by
  obtain ⟨D, h1, h2, h3, h4⟩ := h
  obtain ⟨v, ps, hr, hv⟩ := h1.look_ok law9 Yba.underlying26 (zero3 w) (plainElem_int Yba.underlying3 (a := 0) (by decide)) (keyOf_string_mk Yba.underlying9 hs)
  obtain ⟨a, rfl, ha, _⟩ := plainElem_int_inv Yba.underlying3 hv
  have e1 := h4 s hs
  have e2 : D.atKey (keyL s) (.lit (.int .i64 0)) = .lit (.int .i64 a) := (Prod.mk.inj ha).1
  rw [e1] at e2
  have e3 : (if pos ids s < ids.length then (pos ids s : Int) else 0) = a := by injection e2 with e2; injection e2
  rw [e3, ← h3 s hs]
  exact hr
theorem MapIs.len {w : World} {bm : Nat} {ids : List ByteArray} (h : MapIs w bm ids) (ty : TypeId) : (Builtin.len_ #[26] ty #[.map (some bm)]).run Yba.prog w = .ok (.int .i64 (ids.length : Int)) w := by
  obtain ⟨D, h1, h2, _⟩ := h
  rw [h1.len Yba.underlying26 ty, h2]
theorem MapIs.store {w : World} {bm : Nat} {ids : List ByteArray} (h : MapIs w bm ids) (s : ByteArray) (hs : s.size ≤ maxLen) (hn : ids.length ≤ 1000000) (ha : ¬ pos ids s < ids.length) :
    ∃ w', (Instr.mapUpdate 26 (.map (some bm)) (.string s) (.int .i64 (ids.length : Int))).run Yba.prog w = .ok () w' ∧ MapIs w' bm (ids ++ [s]) ∧ Kept w w' (fun k => k = bm) := by
  obtain ⟨D, h1, h2, h3, h4⟩ := h
  obtain ⟨w', hr, hm, ht⟩ := h1.store law9 Yba.underlying26 (by unfold maxLen; omega) (keyOf_string_mk Yba.underlying9 hs) (plainElem_int Yba.underlying3 (a := (ids.length : Int)) (WalkArith.wf_i64 (by omega)))
  have hk : WideAt.IsKeyLit (keyL s) := trivial
  have hnot : Maps.has D (keyL s) = false := by rw [h3 s hs]; exact decide_eq_false ha
  refine ⟨w', hr, ⟨D.put (keyL s) (.lit (.int .i64 (ids.length : Int))), by rw [List.length_append]; exact hm, ?_, ?_, ?_⟩, .of_grown ht.grown (fun k e => by cases e; rfl)⟩
  · rw [size_put (h1.tidy law9), hnot, h2]; simp
  · intro t ht'
    by_cases hp : pos ids t < ids.length
    · cases he : (s.toList == t.toList) with
      | true =>
        rw [keyL_eq he, has_put_same h1.isMap hk, pos_snoc_old _ _ _ hp]
        simp; omega
      | false =>
        rw [has_put_other (keyL_ne he), h3 t ht', pos_snoc_old _ _ _ hp]
        simp; omega
    · cases he : (s.toList == t.toList) with
      | true =>
        rw [keyL_eq he, has_put_same h1.isMap hk, pos_snoc_new _ _ _ hp he]
        simp
      | false =>
        rw [has_put_other (keyL_ne he), h3 t ht', pos_snoc_out _ _ _ hp he]
        simp; omega
  · intro t ht'
    by_cases hp : pos ids t < ids.length
    · have he : (s.toList == t.toList) = false := by
        cases he : (s.toList == t.toList) with
        | false => rfl
        | true =>
          exfalso
          have := h3 t ht'
          rw [keyL_eq he, hnot] at this
          simp [hp] at this
      rw [atKey_put_other (keyL_ne he), h4 t ht', pos_snoc_old _ _ _ hp, if_pos hp, if_pos (by simp; omega)]
    · cases he : (s.toList == t.toList) with
      | true =>
        rw [keyL_eq he, atKey_put_same h1.isMap hk, pos_snoc_new _ _ _ hp he, if_pos (by simp)]
      | false =>
        rw [atKey_put_other (keyL_ne he), h4 t ht', pos_snoc_out _ _ _ hp he, if_neg hp, if_neg (by simp)]
end Go.Proofs.Ybulkdmoy
