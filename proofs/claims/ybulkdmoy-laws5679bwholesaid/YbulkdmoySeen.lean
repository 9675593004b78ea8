import Derived.Test.YbulkdmoyGrow
import Derived.Lib.BufferWrite
namespace Go.Proofs.Ybulkdmoy
open Go.ChangeShapes Go.WideShapes Go.ChangeAt Go.RowKit
set_option linter.unusedVariables false

/-! ### newSeenMember -/
def z8 : Array Value := #[.int .u8 0, .int .u8 0, .int .u8 0, .int .u8 0, .int .u8 0, .int .u8 0, .int .u8 0, .int .u8 0]
def h8 (s : ByteArray) : Array Value := #[.int .u8 (byt s 0 : Int), .int .u8 (byt s 1 : Int), .int .u8 (byt s 2 : Int), .int .u8 (byt s 3 : Int), .int .u8 (byt s 4 : Int), .int .u8 (byt s 5 : Int), .int .u8 (byt s 6 : Int), .int .u8 (byt s 7 : Int)]

theorem bytes8 (s : ByteArray) : Lib.byteCells (s.data.toList.take 8) ++ z8.toList.drop (Nat.min s.size 8) = (h8 s).toList := by
  have hs : s.size = s.data.toList.length := Lib.size_eq s
  unfold h8 byt
  rw [hs]
  generalize s.data.toList = l
  match l with
  | [] => rfl
  | [a] => rfl
  | [a, b] => rfl
  | [a, b, c] => rfl
  | [a, b, c, d] => rfl
  | [a, b, c, d, e] => rfl
  | [a, b, c, d, e, f] => rfl
  | [a, b, c, d, e, f, g] => rfl
  | a :: b :: c :: d :: e :: f :: g :: h :: r =>
    have e8 : Nat.min (a :: b :: c :: d :: e :: f :: g :: h :: r).length 8 = 8 := Nat.min_eq_right (by simp)
    rw [e8]
    rfl

theorem setRow_new (W : World) (M Y : Array Value) (t : TypeId) : (W.alloc (.cells M t)).setRow W.heap.size Y = W.alloc (.cells Y t) := by
  have e : ((W.alloc (.cells M t)).setRow W.heap.size Y).heap = (W.alloc (.cells Y t)).heap := by
    apply Array.ext_getElem?
    intro i
    by_cases hi : i = W.heap.size
    · subst hi
      rw [setRow_heap _ _ M Y t (0, 0) (heap_alloc_new W _), heap_alloc_new W _]
    · rw [setRow_other _ _ _ _ hi]
      show (W.heap.push _)[i]? = (W.heap.push _)[i]?
      rw [Array.getElem?_push, Array.getElem?_push, if_neg hi, if_neg hi]
  calc (W.alloc (.cells M t)).setRow W.heap.size Y = { (W.alloc (.cells Y t)) with heap := ((W.alloc (.cells M t)).setRow W.heap.size Y).heap } := rfl
    _ = _ := by rw [e]

theorem copy_head (W : World) (ty : TypeId) (s : ByteArray) :
    (Builtin.copy_ #[54, 9] ty #[.slice (some ⟨W.heap.size, 0, none⟩) 8 8, .string s]).run Yba.prog (W.alloc (.cells z8 53)) = .ok (goInt (Nat.min s.size 8)) (W.alloc (.cells (h8 s) 53)) := by
  have hg : (W.alloc (.cells z8 53)).heap[W.heap.size]? = some (.cells z8 53 (0, 0)) := heap_alloc_new W _
  have hlen : (Lib.byteCells (s.data.toList.take 8)).length = Nat.min s.size 8 := by rw [Lib.byteCells_length, List.length_take, ← Lib.size_eq]; exact Nat.min_comm _ _
  have hst := run_storeCells_at Yba.prog W.heap.size 0 53 (Lib.byteCells (s.data.toList.take 8)) 0 z8 (W.alloc (.cells z8 53)) hg (by rw [hlen]; have := Nat.min_le_right s.size 8; simp [z8]; omega) (Lib.byteCells_one _)
  have htk : List.take (Nat.min s.size 8) (List.map (fun b : UInt8 => Value.int IntKind.u8 (b.toNat : Int)) s.data.toList) = Lib.byteCells (s.data.toList.take 8) := by
    unfold Lib.byteCells
    rw [List.map_take]
    apply List.take_eq_take_iff.2
    rw [List.length_map, ← Lib.size_eq]
    show min (min s.size 8) s.size = min 8 s.size
    omega
  simp only [Nat.add_zero, List.take_zero, List.nil_append, Nat.zero_add, hlen] at hst
  obtain ⟨i, hi, hz0, hz1, hz2⟩ := info_parts (show (Yba.prog.info? 5).map (fun i => (i.zero, i.size, i.bytes)) = some (some (.int .u8 0), 1, 1) by kernel_rfl)
  simp [Builtin.copy_, run_underlying Yba.underlying54, Builtin.lenOf, Builtin.firstCells, sizeOf, typeInfo, hi]
  rw [htk, hst, bytes8, Array.toArray_toList, setRow_new]
  rfl

theorem le_head (s : ByteArray) : (Lib.leNat [UInt8.ofNat (byt s 0), UInt8.ofNat (byt s 1), UInt8.ofNat (byt s 2), UInt8.ofNat (byt s 3), UInt8.ofNat (byt s 4), UInt8.ofNat (byt s 5), UInt8.ofNat (byt s 6), UInt8.ofNat (byt s 7)] : Int) = (head s : Int) := by
  have e : ∀ i, (UInt8.ofNat (byt s i)).toNat = byt s i := fun i => by rw [UInt8.toNat_ofNat']; exact Nat.mod_eq_of_lt (byt_lt s i)
  simp only [Lib.leNat, e, head, headK]
  omega

/-- The id's first eight bytes as a number. -/
theorem uint64_at (s : ByteArray) (W : World) (g : Nat) (hc : W.heap[g]? = some (.cells (h8 s) 53 (0, 0))) :
    Calls Yba.prog 15 #[.agg #[], .slice (some ⟨g, 0, none⟩) 8 8] W fun e w' => e = .returned (.int .u64 (head s : Int)) ∧ Below W.heap.size W w' := by
  have e : ∀ i, ((UInt8.ofNat (byt s i)).toNat : Int) = (byt s i : Int) := fun i => by rw [UInt8.toNat_ofNat', Nat.mod_eq_of_lt (byt_lt s i)]
  have c : ∀ j (v : Value), (h8 s)[j]? = some v → W.cell? ⟨g, j, none⟩ = some v := fun j v hj => by rw [cell_of_row W g j (h8 s) 53 (0, 0) hc]; exact hj
  have h := Yba.binary_LE_Uint64 g 0 8 8 (UInt8.ofNat (byt s 0)) (UInt8.ofNat (byt s 1)) (UInt8.ofNat (byt s 2)) (UInt8.ofNat (byt s 3)) (UInt8.ofNat (byt s 4)) (UInt8.ofNat (byt s 5)) (UInt8.ofNat (byt s 6)) (UInt8.ofNat (byt s 7)) W (by omega)
    (by rw [e]; exact c 0 _ rfl) (by rw [e]; exact c 1 _ rfl) (by rw [e]; exact c 2 _ rfl) (by rw [e]; exact c 3 _ rfl) (by rw [e]; exact c 4 _ rfl) (by rw [e]; exact c 5 _ rfl) (by rw [e]; exact c 6 _ rfl) (by rw [e]; exact c 7 _ rfl)
  rw [le_head] at h
  exact h

theorem bcell {W w1 : World} (hb : Below W.heap.size W w1) : (∀ b o, b < W.heap.size → w1.cell? ⟨b, o, none⟩ = W.cell? ⟨b, o, none⟩) ∧ (∀ b o, b < W.heap.size → w1.frozen? ⟨b, o, none⟩ = W.frozen? ⟨b, o, none⟩) :=
  ⟨fun b o h => hb.cell (p := ⟨b, o, none⟩) h, fun b o h => hb.frozen (p := ⟨b, o, none⟩) h⟩

set_option maxHeartbeats 1000000 in
theorem seen_any (s : ByteArray) (w : World) :
    Calls Yba.prog 11 #[.string s] w fun e w' => e = .returned (.agg #[.string s, .int .i64 0, .int .i64 0, .int .u64 (head s : Int)]) ∧ Below w.heap.size w w' := by
  have hcp : (Builtin.copy_ #[54, 9] 3 #[.slice (some ⟨w.heap.size + 1, 0, none⟩) 8 8, .string s]).run Yba.prog ((w.alloc (.cells #[.string ⟨#[]⟩, .int .i64 0, .int .i64 0, .int .u64 0] 43)).alloc (.cells #[.int .u8 0, .int .u8 0, .int .u8 0, .int .u8 0, .int .u8 0, .int .u8 0, .int .u8 0, .int .u8 0] 53)) =
      .ok (goInt (Nat.min s.size 8)) ((w.alloc (.cells #[.string ⟨#[]⟩, .int .i64 0, .int .i64 0, .int .u64 0] 43)).alloc (.cells (h8 s) 53)) := by
    have h := copy_head (w.alloc (.cells #[.string ⟨#[]⟩, .int .i64 0, .int .i64 0, .int .u64 0] 43)) 3 s
    rw [World.size_alloc] at h
    exact h
  have C : Hid (∀ W : World, ∀ g, W.heap[g]? = some (.cells (h8 s) 53 (0, 0)) → Calls Yba.prog 15 #[.agg #[], .slice (some ⟨g, 0, none⟩) 8 8] W fun e w' => e = .returned (.int .u64 (head s : Int)) ∧ Below W.heap.size W w') := fun W g h => uint64_at s W g h
  go_enter Yba.func11, Yba.ntmps11
  go_wp2_with fail
  go_region_with ((go_at_call 15; refine (C.out _ (w.heap.size + 1) ?_).mono ?_; (have h := heap_alloc_new (w.alloc (.cells #[.string ⟨#[]⟩, .int .i64 0, .int .i64 0, .int .u64 0] 43)) (.cells (h8 s) 53); rw [World.size_alloc] at h; exact h); rintro e w1 ⟨rfl, hb⟩; obtain ⟨hc, hf⟩ := bcell hb))
  go_wp2
  have hB : Below w.heap.size w w1 := (((Below.refl _ w).alloc (Nat.le_refl _) _).alloc (by simp) _).drew.trans (hb.mono (by simp; omega))
  have k0 : w1.cell? ⟨w.heap.size, 0, none⟩ = some (.string ⟨#[]⟩) := by rw [hc _ _ (by simp; omega)]; go_simp
  have k1 : w1.cell? ⟨w.heap.size, 1, none⟩ = some (.int .i64 0) := by rw [hc _ _ (by simp; omega)]; go_simp
  have k2 : w1.cell? ⟨w.heap.size, 2, none⟩ = some (.int .i64 0) := by rw [hc _ _ (by simp; omega)]; go_simp
  have k3 : w1.cell? ⟨w.heap.size, 3, none⟩ = some (.int .u64 0) := by rw [hc _ _ (by simp; omega)]; go_simp
  clear hc hf hcp C
  exact bodyPost_ret (v := .agg #[.string s, .int .i64 0, .int .i64 0, .int .u64 (head s : Int)]) (by simp [results, Yba.results11, go_sem, k0, k1, k2, k3]) rfl ⟨rfl, (((hB.setCell (Nat.le_refl _) _).setCell (Nat.le_refl _) _).setCell (Nat.le_refl _) _).setCell (Nat.le_refl _) _⟩
end Go.Proofs.Ybulkdmoy
