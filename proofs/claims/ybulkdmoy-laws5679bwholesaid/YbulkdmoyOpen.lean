import Derived.Test.YbulkdmoyLawA
import Derived.Deep.Slices
import Derived.SizedLaws
import Derived.OpenShut
namespace Go.Proofs.Ybulkdmoy
open Go.ChangeShapes Go.WideShapes Go.ChangeAt Go.RowKit Go.WideMaps Go.Maps
set_option linter.unusedVariables false

theorem cells25' : Yba.prog.cellsOf 25 = 5 := by kernel_rfl
theorem cells5' : Yba.prog.cellsOf 5 = 1 := by kernel_rfl
theorem cells9' : Yba.prog.cellsOf 9 = 1 := by kernel_rfl
theorem cells23' : Yba.prog.cellsOf 23 = 1 := by kernel_rfl
theorem cells2' : Yba.prog.cellsOf 2 = 1 := by kernel_rfl
theorem cells3' : Yba.prog.cellsOf 3 = 1 := by kernel_rfl

theorem list5 {α : Type} {l : List α} (h : l.length = 5) : ∃ a b c d e, l = [a, b, c, d, e] := by
  match l, h with
  | [a, b, c, d, e], _ => exact ⟨a, b, c, d, e, rfl⟩

/-- One step of the script, read. -/
theorem step_read {H : Type} {enc : TypeId × Value → H} {w : World} {n : Nat} {a : Addr} {cs : List Value} {d : DataW H} {ps : List MemPlace}
    (hc : w.cells? 0 a (Yba.prog.cellsOf 25) = some cs) (h : DataW.trod enc Yba.prog w 0 (fun _ => true) true n 25 cs = some (d, ps)) :
    ∃ x : Int × ByteArray × Int × Int × Int, w.cell? a = some (.int .u8 x.1) ∧ w.cell? (a.add 1) = some (.string x.2.1) ∧ w.cell? (a.add 2) = some (.int .u32 x.2.2.1) ∧ w.cell? (a.add 3) = some (.int .i64 x.2.2.2.1) ∧ w.cell? (a.add 4) = some (.int .i64 x.2.2.2.2) ∧
      (0 ≤ x.1 ∧ x.1 ≤ 255) ∧ (0 ≤ x.2.2.1 ∧ x.2.2.1 ≤ 4294967295) ∧ x.2.1.size ∈ d.weights Yba.prog 25 := by
  obtain ⟨_, hl, hcell⟩ := World.cells?_some hc
  rw [cells25'] at hl hcell
  obtain ⟨v0, v1, v2, v3, v4, rfl⟩ := list5 hl
  obtain ⟨xs, m, _, hx, _, hlen, hf⟩ := DataW.trod_struct Yba.underlying25 h
  obtain ⟨y0, y1, y2, y3, y4, rfl⟩ := list5 (l := xs) (by simpa using hlen)
  have f0 := hf 0 _ rfl
  have f1 := hf 1 _ rfl
  have f2 := hf 2 _ rfl
  have f3 := hf 3 _ rfl
  have f4 := hf 4 _ rfl
  simp [cells5', cells9', cells23', cells2', cells3'] at f0 f1 f2 f3 f4
  obtain ⟨z0, e0, _, b0⟩ := DataW.trod_int Yba.underlying5 f0
  obtain ⟨z1, e1, q1, _⟩ := DataW.trod_string Yba.underlying9 f1
  obtain ⟨z2, e2, _, b2⟩ := DataW.trod_int Yba.underlying23 f2
  obtain ⟨z3, e3, _, _⟩ := DataW.trod_int Yba.underlying2 f3
  obtain ⟨z4, e4, _, _⟩ := DataW.trod_int Yba.underlying3 f4
  simp at e0 e1 e2 e3 e4
  subst e0 e1 e2 e3 e4
  simp only [Prod.mk.injEq] at hx
  obtain ⟨rfl, _⟩ := hx
  have c0 := hcell 0 (by omega)
  have c1 := hcell 1 (by omega)
  have c2 := hcell 2 (by omega)
  have c3 := hcell 3 (by omega)
  have c4 := hcell 4 (by omega)
  have a0 : a.add 0 = a := by cases a; rfl
  rw [a0] at c0
  refine ⟨(z0, z1, z2, z3, z4), c0, c1, c2, c3, c4, ?_, ?_, ?_⟩
  · simp [Lit.wf] at b0
    have m1 : IntKind.u8.min = 0 := by decide
    have m2 : IntKind.u8.max = 255 := by decide
    rw [m1, m2] at b0
    exact b0
  · simp [Lit.wf] at b2
    have m1 : IntKind.u32.min = 0 := by decide
    have m2 : IntKind.u32.max = 4294967295 := by decide
    rw [m1, m2] at b2
    exact b2
  · subst q1
    simp [DataW.weights, DataW.weightsEach, Yba.underlying25]

theorem add_flat (b off d : Nat) : (⟨b, off, none⟩ : Addr).add d = ⟨b, off + d, none⟩ := by
  unfold Addr.add
  split
  · subst d; rfl
  · rfl

theorem weightsAll_mem {H : Type} {P : Program} {e : TypeId} {x : Nat} : ∀ {l : List (DataW H)} {d : DataW H}, d ∈ l → x ∈ d.weights P e → x ∈ DataW.weightsAll P e l
  | a :: l, d, hd, hx => by
    simp only [DataW.weightsAll, List.mem_append]
    rcases List.mem_cons.1 hd with rfl | h
    · exact Or.inl hx
    · exact Or.inr (weightsAll_mem h hx)

/-- THE SCRIPT THAT CAME IN, READ. -/
theorem script_of {H : Type} {enc : TypeId × Value → H} {w : World} {fuel : Nat} {sa : Option Addr} {n sc : Nat} {x : DataW H × List MemPlace}
    (h : DataW.trod enc Yba.prog w 0 (fun _ => true) true fuel 22 [.slice sa n sc] = some x) (hw : ∀ y ∈ x.1.weights Yba.prog 22, y ≤ reachBytes) :
    ∃ sb so op S A D L, Script w sa n sc sb so op S A D L := by
  rcases Go.Deep.open_slice Yba.underlying22 h with ⟨hcs, _⟩ | ⟨a, len, cap, m, nn, Dd, Pl, hcs, _, hl, hm, hmm, rfl, hx⟩
  · simp at hcs
    obtain ⟨rfl, rfl, rfl⟩ := hcs
    refine ⟨0, 0, fun _ => 0, fun _ => ByteArray.empty, fun _ => 0, fun _ => 0, fun _ => 0, ⟨?_, ?_, ?_, ?_, ?_, ?_, ?_, ?_, ?_, ?_⟩⟩ <;> intros <;> first | omega | simp
  · simp at hcs
    obtain ⟨rfl, rfl, rfl⟩ := hcs
    have hmn : m = sc := by simpa using hmm
    subst hmn
    obtain ⟨F, hF⟩ := Go.Deep.choose_lt (α := Int × ByteArray × Int × Int × Int) (n := n) (p := fun i x => w.cell? (a.add (i * 5)) = some (.int .u8 x.1) ∧ w.cell? ((a.add (i * 5)).add 1) = some (.string x.2.1) ∧ w.cell? ((a.add (i * 5)).add 2) = some (.int .u32 x.2.2.1) ∧ w.cell? ((a.add (i * 5)).add 3) = some (.int .i64 x.2.2.2.1) ∧ w.cell? ((a.add (i * 5)).add 4) = some (.int .i64 x.2.2.2.2) ∧
      (0 ≤ x.1 ∧ x.1 ≤ 255) ∧ (0 ≤ x.2.2.1 ∧ x.2.2.1 ≤ 4294967295) ∧ x.2.1.size ≤ 140737488355328) (fun i hi => by
        obtain ⟨cs', h1, h2⟩ := hx i (by omega)
        obtain ⟨x, g0, g1, g2, g3, g4, g5, g6, g7⟩ := step_read h1 h2
        rw [cells25'] at g0 g1 g2 g3 g4
        refine ⟨x, g0, g1, g2, g3, g4, g5, g6, ?_⟩
        have hmem : x.2.1.size ∈ DataW.weights Yba.prog 22 (DataW.slice ((List.range n).map Dd) ((List.range (m - n)).map fun j => Dd (n + j))) := by
          simp only [DataW.weights, Yba.underlying22, List.mem_cons, List.mem_append]
          exact Or.inr (Or.inl (weightsAll_mem (List.mem_map.2 ⟨i, by simpa using hi, rfl⟩) g7))
        have := hw _ hmem
        unfold reachBytes at this
        omega)
    by_cases hn0 : n = 0
    · subst hn0
      refine ⟨0, 0, fun _ => 0, fun _ => ByteArray.empty, fun _ => 0, fun _ => 0, fun _ => 0, ⟨?_, ?_, ?_, ?_, ?_, ?_, ?_, ?_, ?_, ?_⟩⟩ <;> intros <;> first | omega | simp
    · obtain ⟨b, off, spot⟩ := a
      have hspot : spot = none := by simpa [Addr.add] using World.cell?_spot (hF 0 (by omega)).1
      subst hspot
      refine ⟨b, off, fun i => if i < n then (F i).1 else 0, fun i => if i < n then (F i).2.1 else ByteArray.empty, fun i => if i < n then (F i).2.2.1 else 0, fun i => (F i).2.2.2.1, fun i => (F i).2.2.2.2, ⟨?_, ?_, ?_, ?_, ?_, ?_, ?_, ?_, ?_, ?_⟩⟩
      · intro _
        have := (hF 0 (by omega)).1
        simp only [add_flat] at this
        exact World.block_lt_of_cell? w _ this
      · intro k hk W
        have e1 : (0 : Int) ≤ (k : Int) ∧ (k : Int) < (n : Int) := by omega
        simp [Instr.indexAt, run_underlying Yba.underlying22, asIntOf, Yba.sizeOf25, e1, add_flat, hk]
      · intro k hk
        simp only [hk, if_true]
        simpa [add_flat] using (hF k hk).1
      · intro k hk
        simp only [hk, if_true]
        simpa [add_flat] using (hF k hk).2.1
      · intro k hk
        simp only [hk, if_true]
        simpa [add_flat] using (hF k hk).2.2.1
      · intro k hk
        simpa [add_flat] using (hF k hk).2.2.2.1
      · intro k hk
        simpa [add_flat] using (hF k hk).2.2.2.2.1
      · intro k
        by_cases hk : k < n
        · simp only [hk, if_true]
          exact (hF k hk).2.2.2.2.2.1
        · simp [hk]
      · intro k
        by_cases hk : k < n
        · simp only [hk, if_true]
          exact (hF k hk).2.2.2.2.2.2.2
        · simp [hk]
      · intro k
        by_cases hk : k < n
        · simp only [hk, if_true]
          exact (hF k hk).2.2.2.2.2.2.1
        · simp [hk]
end Go.Proofs.Ybulkdmoy
