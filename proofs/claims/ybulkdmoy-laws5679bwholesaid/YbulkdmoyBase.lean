import Derived.Test.YbulkdmoyRows
import Derived.Test.YbulkdmoyShelf
import Derived.WalkKit
import Derived.ProofKit
import Derived.OpenShut
import Derived.WalkSpells
import Derived.WalkSmall
import Derived.Deep.QuietTactic
import Derived.BigQuiet
import Derived.RegionTactic
import Derived.Deep.RegionWith
import Derived.Deep.AppendLies
import Derived.Laws.Bits64
import Derived.Laws.Bits64b
import Derived.Maps.OwnSet
namespace Go.Proofs.Ybulkdmoy
open Go.ChangeShapes Go.WideShapes Go.ChangeAt Go.RowKit
set_option linter.unusedVariables false

/-! ### Worlds: what is kept -/
/-- w' is w with new blocks, and with writes to the blocks of S alone. -/
structure Kept (w w' : World) (S : Nat → Prop) : Prop where
  os : w'.os = w.os
  tape : w'.tape = w.tape
  output : w'.output = w.output
  size : w.heap.size ≤ w'.heap.size
  block : ∀ k, k < w.heap.size → ¬ S k → w'.heap[k]? = w.heap[k]?

theorem Kept.refl (w : World) (S : Nat → Prop) : Kept w w S := ⟨rfl, rfl, rfl, Nat.le_refl _, fun _ _ _ => rfl⟩
theorem Kept.trans {a b c : World} {S S' : Nat → Prop} (h : Kept a b S) (k : Kept b c S') (hS : ∀ k, k < a.heap.size → S' k → S k) : Kept a c S :=
  ⟨k.os.trans h.os, k.tape.trans h.tape, k.output.trans h.output, Nat.le_trans h.size k.size,
    fun i hi hn => (k.block i (Nat.lt_of_lt_of_le hi h.size) (fun hs => hn (hS i hi hs))).trans (h.block i hi hn)⟩
theorem Kept.mono {a b : World} {S S' : Nat → Prop} (h : Kept a b S) (hS : ∀ k, k < a.heap.size → S k → S' k) : Kept a b S' :=
  ⟨h.os, h.tape, h.output, h.size, fun i hi hn => h.block i hi (fun hs => hn (hS i hi hs))⟩
theorem Kept.of_grown {a b : World} {row : Option Nat} {S : Nat → Prop} (h : a.grownBy b row) (hS : ∀ k, row = some k → S k) : Kept a b S :=
  ⟨h.os, h.tape, h.output, h.size, fun i hi hn => h.block i hi (fun e => hn (hS i e.symm))⟩
theorem Kept.of_below {a b : World} {S : Nat → Prop} (h : Below a.heap.size a b) : Kept a b S :=
  ⟨h.os, h.tape, h.output, h.size, fun i hi _ => h.block i hi⟩
theorem Kept.alloc (w : World) (o : Obj) (S : Nat → Prop) : Kept w (w.alloc o) S := .of_below ((Below.refl _ w).alloc (Nat.le_refl _) o)
theorem Kept.drewN (w : World) (n : Nat) (S : Nat → Prop) : Kept w (w.drewN n) S := ⟨rfl, rfl, rfl, Nat.le_refl _, fun _ _ _ => rfl⟩
theorem Kept.drew (w : World) (S : Nat → Prop) : Kept w w.drew S := ⟨rfl, rfl, rfl, Nat.le_refl _, fun _ _ _ => rfl⟩
theorem Kept.setCell (w : World) (a : Addr) (v : Value) {S : Nat → Prop} (hS : S a.block) : Kept w (w.setCell a v) S :=
  ⟨rfl, rfl, rfl, by simp [World.setCell], fun i _ hn => Below.heap_setCell _ _ _ _ (fun e => hn (e ▸ hS))⟩
theorem Kept.below {w w' : World} {S : Nat → Prop} (h : Kept w w' S) {B : Nat} (hB : B ≤ w.heap.size) (hS : ∀ k, S k → B ≤ k) : Below B w w' :=
  ⟨h.os, h.tape, h.output, h.size, fun k hk => h.block k (by omega) (fun hs => by have := hS k hs; omega)⟩
theorem Kept.cell {w w' : World} {S : Nat → Prop} (h : Kept w w' S) {a : Addr} {v : Value} (hc : w.cell? a = some v) (hn : ¬ S a.block) : w'.cell? a = some v :=
  (World.cell?_of_block (w := w) (h.block a.block (World.block_lt_of_cell? w a hc) hn)).trans hc
theorem Kept.heap {w w' : World} {S : Nat → Prop} (h : Kept w w' S) {k : Nat} {o : Obj} (hc : w.heap[k]? = some o) (hn : ¬ S k) : w'.heap[k]? = some o :=
  (h.block k (Array.getElem?_eq_some_iff.1 hc).1 hn).trans hc
theorem Kept.row {w w' : World} {S : Nat → Prop} (h : Kept w w' S) {B : Nat} {e : TypeId} {size : Nat} {v : Value} {n : Nat} {xs : List Value} (hr : w.ownsRow B e size v n xs) (hn : ∀ k, v.ownBlock = some k → ¬ S k) : w'.ownsRow B e size v n xs := by
  obtain ⟨h1, h2⟩ := hr
  refine ⟨h1, ?_⟩
  rcases h2 with h2 | ⟨g, cap, cur, rfl, hg, hh, r⟩
  · exact Or.inl h2
  · exact Or.inr ⟨g, cap, cur, rfl, hg, h.heap hh (hn g rfl), r⟩
theorem Kept.map {w w' : World} {S : Nat → Prop} (h : Kept w w' S) {P : Program} {k : TypeId} {R : Value → Option (DataW Unit × List MemPlace)} {b n : Nat} {D : DataW Unit} (hm : w.ownsMap P k R b n D) (hn : ¬ S b) : w'.ownsMap P k R b n D := by
  have hlt := hm.lt
  obtain ⟨es, clock, hb, F, hs, hD⟩ := hm
  exact ⟨es, clock, h.heap hb hn, F, hs, hD⟩

/-! ### strings.Clone -/
theorem clone_any (s : ByteArray) (w : World) (hlim : s.size ≤ 281474976710656) :
    Calls Yba.prog 9 #[.string s] w fun e w' => e = .returned (.string s) ∧ Below w.heap.size w w' := by
  have C : Hid (∀ w, Calls Yba.prog 13 #[.string s] w fun e w' => e = .returned (.string s) ∧ Below w.heap.size w w') := fun w => Yba.stringslite_Clone s w hlim
  go_enter Yba.func9, Yba.ntmps9
  go_wp2_with fail
  refine (C.out _).mono ?_
  rintro e w1 ⟨rfl, hb⟩
  go_wp2_with fail
  go_ret
  exact ⟨rfl, hb⟩

/-! ### the head of an id -/
/-- byte i of s, or 0 -/
def byt (s : ByteArray) (i : Nat) : Nat := (s.data.toList[i]?.getD 0).toNat
/-- the first k bytes, the least first -/
def headK (s : ByteArray) : Nat → Nat
  | 0 => 0
  | k + 1 => headK s k + byt s k * 256 ^ k
def head (s : ByteArray) : Nat := headK s 8
theorem byt_lt (s : ByteArray) (i : Nat) : byt s i < 256 := (s.data.toList[i]?.getD 0).toNat_lt
theorem byt_at (s : ByteArray) (i : Nat) (h : i < s.size) : byt s i = s[i].toNat := by
  have : s.data.toList[i]? = some s[i] := by
    obtain ⟨d⟩ := s
    have h' : i < d.size := h
    show d.toList[i]? = some d[i]
    simp [h']
  unfold byt
  rw [this]
  rfl
theorem byt_out (s : ByteArray) (i : Nat) (h : s.size ≤ i) : byt s i = 0 := by
  have : s.data.toList[i]? = none := List.getElem?_eq_none (by simpa using h)
  unfold byt
  rw [this]
  rfl
theorem headK_lt (s : ByteArray) : ∀ k, headK s k < 256 ^ k
  | 0 => by simp [headK]
  | k + 1 => by
    have h := headK_lt s k
    have b := byt_lt s k
    show headK s k + byt s k * 256 ^ k < 256 ^ (k + 1)
    rw [Nat.pow_succ]
    have : byt s k * 256 ^ k ≤ 255 * 256 ^ k := Nat.mul_le_mul_right _ (by omega)
    omega
theorem headK_out (s : ByteArray) (k j : Nat) (h : s.size ≤ k) : headK s (k + j) = headK s k := by
  induction j with
  | zero => rfl
  | succ j ih =>
    show headK s (k + j) + byt s (k + j) * 256 ^ (k + j) = _
    rw [byt_out s (k + j) (by omega), ih]
    omega
theorem head_cut (s : ByteArray) (k : Nat) (h : s.size ≤ k) (hk : k ≤ 8) : headK s k = head s := by
  have := headK_out s k (8 - k) h
  rw [show k + (8 - k) = 8 by omega] at this
  exact this.symm
theorem head_bd (s : ByteArray) : head s < 18446744073709551616 := headK_lt s 8
theorem or_step (s : ByteArray) (k : Nat) : headK s k ||| (byt s k * 256 ^ k) = headK s (k + 1) := by
  have h := headK_lt s k
  have := Nat.shiftLeft_add_eq_or_of_lt (i := 8 * k) (b := headK s k) (by rw [Nat.pow_mul]; exact h) (byt s k)
  rw [Nat.shiftLeft_eq, Nat.pow_mul] at this
  show _ = headK s k + byt s k * 256 ^ k
  rw [Nat.or_comm, Nat.add_comm]
  exact this.symm
theorem or_run (s : ByteArray) (k : Nat) (hk : k < 8) : bits .or .u64 (headK s k : Int) (((byt s k * 256 ^ k : Nat)) : Int) = (headK s (k + 1) : Int) := by
  have h := headK_lt s k
  have hp : 256 ^ k * 256 ≤ 18446744073709551616 := by
    rw [← Nat.pow_succ]
    calc 256 ^ (k + 1) ≤ 256 ^ 8 := Nat.pow_le_pow_right (by omega) (by omega)
      _ = _ := by decide
  have b : byt s k * 256 ^ k ≤ 255 * 256 ^ k := Nat.mul_le_mul_right _ (by have := byt_lt s k; omega)
  rw [bits_or_u64_nat _ _ (by omega) (by omega), or_step]

theorem shl_run (s : ByteArray) (k : Nat) (hk : k < 8) (h : k < s.size) : IntKind.u64.wrap (IntKind.u64.wrap (s[k].toNat : Int) * 2 ^ (8 * k)) = ((byt s k * 256 ^ k : Nat) : Int) := by
  have hp : 256 ^ k * 256 ≤ 18446744073709551616 := by
    rw [← Nat.pow_succ]
    calc 256 ^ (k + 1) ≤ 256 ^ 8 := Nat.pow_le_pow_right (by omega) (by omega)
      _ = _ := by decide
  have b : byt s k * 256 ^ k ≤ 255 * 256 ^ k := Nat.mul_le_mul_right _ (by have := byt_lt s k; omega)
  have hb := byt_lt s k
  rw [byt_at s k h] at hb b ⊢
  have e : (s[k].toNat : Int) * 2 ^ (8 * k) = ((s[k].toNat * 256 ^ k : Nat) : Int) := by
    rw [Int.natCast_mul, Int.natCast_pow, Int.pow_mul]
    rfl
  have e0 : (s[k].toNat : Int) % 18446744073709551616 = (s[k].toNat : Int) := Int.emod_eq_of_lt (by omega) (by omega)
  rw [IntKind.wrap_u64, IntKind.wrap_u64, e0, e]
  exact Int.emod_eq_of_lt (by omega) (by omega)

theorem zhead_any (s : ByteArray) (hs : s.size ≤ maxLen) (w : World) :
    Calls Yba.prog 8 #[.string s] w fun e w' => e = .returned (.int .u64 (head s : Int)) ∧ w' = w := by
  unfold maxLen at hs
  go_enter Yba.func8, Yba.ntmps8
  go_wp2
  go_loop [3, 4] (fun h i => ∃ k : Nat, k ≤ 8 ∧ k ≤ s.size ∧ i = .int .i64 (k : Int) ∧ h = .int .u64 (headK s k : Int)) (fun _ i => 8 - (intOf i).toNat)
  case atStart => exact ⟨0, by omega, by omega, rfl, rfl⟩
  case round =>
    obtain ⟨k, hk8, hks, rfl, rfl⟩ := hrel
    by_cases h8 : k < 8
    · by_cases h : k < s.size
      · have HS : Hid _ := shl_run s k h8 h
        have HO : Hid _ := or_run s k h8
        go_wp2
        go_round
        case rel => exact ⟨k + 1, by omega, by omega, by go_num, by rw [HS.out, HO.out]⟩
        case measure => simp [intOf]; omega
      · have HH : Hid _ := head_cut s k (by omega) hk8
        have hd : decide ((k : Int) < (s.size : Int)) = false := by simp; omega
        go_wp2
        go_ret
        exact ⟨by rw [← HH.out]; rfl, rfl⟩
    · obtain rfl : k = 8 := by omega
      go_wp2
      go_ret
      exact ⟨rfl, rfl⟩
end Go.Proofs.Ybulkdmoy
