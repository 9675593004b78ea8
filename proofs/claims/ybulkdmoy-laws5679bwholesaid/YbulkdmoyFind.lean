import Derived.Test.YbulkdmoyBase
namespace Go.Proofs.Ybulkdmoy
open Go.ChangeShapes Go.WideShapes Go.ChangeAt Go.RowKit
set_option linter.unusedVariables false

/-! ### the place of an id in a list -/
def pos (ids : List ByteArray) (s : ByteArray) : Nat := ids.findIdx (fun x => x.toList == s.toList)
/-- what zzs5679bfind gives -/
def fnd (ids : List ByteArray) (s : ByteArray) : Int := if pos ids s < ids.length then (pos ids s : Int) else -1

theorem pos_le (ids : List ByteArray) (s : ByteArray) : pos ids s ≤ ids.length := List.findIdx_le_length
theorem pos_hit (ids : List ByteArray) (s : ByteArray) (k : Nat) (hk : k < ids.length) (h : k ≤ pos ids s) (he : (ids[k].toList == s.toList) = true) : pos ids s = k := by
  rcases Nat.lt_or_ge k (pos ids s) with hlt | hge
  · have := List.not_of_lt_findIdx (p := fun x : ByteArray => x.toList == s.toList) (xs := ids) hlt
    rw [he] at this
    cases this
  · omega
theorem pos_miss (ids : List ByteArray) (s : ByteArray) (k : Nat) (hk : k < ids.length) (h : k ≤ pos ids s) (he : (ids[k].toList == s.toList) = false) : k + 1 ≤ pos ids s := by
  rcases Nat.lt_or_ge k (pos ids s) with hlt | hge
  · omega
  · have e : pos ids s = k := by omega
    have := List.findIdx_getElem (p := fun x : ByteArray => x.toList == s.toList) (xs := ids) (w := by show pos ids s < _; omega)
    have h2 : ids[pos ids s]'(by omega) = ids[k] := by congr 1
    have h3 : ((ids[pos ids s]'(by omega)).toList == s.toList) = true := this
    rw [h2, he] at h3
    cases h3

/-- The shape of a slice that owns a row. -/
theorem row_form {w : World} {B : Nat} {e : TypeId} {size : Nat} {v : Value} {n : Nat} {xs : List Value} (h : w.ownsRow B e size v n xs) :
    (v = .slice none 0 0 ∧ n = 0 ∧ xs = []) ∨ ∃ g cap, v = .slice (some ⟨g, 0, none⟩) n cap ∧ n ≤ cap ∧ cap ≤ maxLen ∧ B ≤ g ∧ g < w.heap.size := by
  have h1 := h.1
  rcases h.2 with ⟨rfl, rfl⟩ | ⟨g, cap, cur, rfl, hb, hg, hn, hm, _⟩
  · exact .inl ⟨rfl, rfl, List.eq_nil_of_length_eq_zero (by simpa using h1)⟩
  · exact .inr ⟨g, cap, rfl, hn, hm, hb, (Array.getElem?_eq_some_iff.1 hg).1⟩

theorem find_any (B : Nat) (v : Value) (ids : List ByteArray) (s : ByteArray) (w : World) (hn : ids.length ≤ 1000000)
    (hown : w.ownsRow B 9 1 v ids.length (ids.map Value.string)) :
    Calls Yba.prog 6 #[v, .string s] w fun e w' => e = .returned (.int .i64 (fnd ids s)) ∧ w' = w := by
  have HF : Hid (pos ids s ≤ ids.length) := pos_le ids s
  rcases row_form hown with ⟨rfl, h0, hx⟩ | ⟨g, cap, rfl, hnc, hcm, hBg, hgl⟩
  · have hi : ids = [] := List.map_eq_nil_iff.1 hx
    subst hi
    clear hown hx h0
    go_enter Yba.func6, Yba.ntmps6
    go_wp2
    refine wp_loop_rounds 1 ?_; rw [rounds_succ]
    go_wp2
    go_ret
    exact ⟨rfl, rfl⟩
  · have hcell : ∀ k (hk : k < ids.length), w.cell? ⟨g, k, none⟩ = some (.string ids[k]) := by
      intro k hk
      rw [hown.cellAt k (by omega)]
      simp [hk]
    have HC : Hid (∀ k (hk : k < ids.length), w.cell? ⟨g, k, none⟩ = some (.string ids[k])) := hcell
    clear hown hcell
    unfold maxLen at hcm
    obtain ⟨n, hn'⟩ : ∃ n, n = ids.length := ⟨_, rfl⟩
    rw [← hn'] at hnc hn ⊢
    have HN : Hid (n = ids.length) := hn'
    clear hn'
    go_enter Yba.func6, Yba.ntmps6
    go_wp2
    go_loop [5] (fun i => ∃ k : Nat, k ≤ n ∧ i = .int .i64 (k : Int) ∧ k ≤ pos ids s) (fun i => n - (intOf i).toNat)
    case atStart => exact ⟨0, by omega, rfl, by omega⟩
    case round =>
      obtain ⟨k, hk, rfl, hp⟩ := hrel
      have HP : Hid (k ≤ pos ids s) := hp
      clear hp
      by_cases h : k < n
      · have h' : k < ids.length := by rw [← HN.out]; exact h
        obtain ⟨x, hx⟩ : ∃ x, x = ids[k] := ⟨_, rfl⟩
        have hc : w.cell? ⟨g, k, none⟩ = some (.string x) := by rw [hx]; exact HC.out k h'
        have HX : Hid (x = ids[k]) := hx
        clear hx
        cases he : (x.toList == s.toList) with
        | true =>
          have HE : Hid (pos ids s = k) := pos_hit ids s k h' HP.out (by rw [← HX.out]; exact he)
          go_wp2
          go_ret
          refine ⟨?_, rfl⟩
          unfold fnd
          rw [HE.out, if_pos h']
          rfl
        | false =>
          have HE : Hid (k + 1 ≤ pos ids s) := pos_miss ids s k h' HP.out (by rw [← HX.out]; exact he)
          go_wp2
          go_round
          case rel => exact ⟨k + 1, by omega, by go_num, HE.out⟩
          case measure => simp [intOf]; omega
      · go_wp2
        go_ret
        refine ⟨?_, rfl⟩
        unfold fnd
        rw [if_neg (by have := HP.out; have := HN.out; omega)]
        rfl
end Go.Proofs.Ybulkdmoy
