import Derived.Test.YbulkdmoyInv
import Derived.Test.YbulkdmoyNew
import Derived.Deep.LoopGhost
import Derived.Deep.DeepCutAuto
namespace Go.Proofs.Ybulkdmoy
open Go.ChangeShapes Go.WideShapes Go.ChangeAt Go.RowKit Go.WideMaps Go.Maps
set_option linter.unusedVariables false

/-- The script, as the walk reads it. -/
structure Script (w : World) (sa : Option Addr) (n sc sb so : Nat) (op : Nat → Int) (S : Nat → ByteArray) (A D L : Nat → Int) : Prop where
  old : 0 < n → sb < w.heap.size
  idx : ∀ k : Nat, k < n → ∀ W : World, (Instr.indexAt 22 (.slice sa n sc) (.int .i64 (k : Int))).run Yba.prog W = .ok (.pointer (some ⟨sb, so + k * 5, none⟩)) W
  c0 : ∀ k, k < n → w.cell? ⟨sb, so + k * 5, none⟩ = some (.int .u8 (op k))
  c1 : ∀ k, k < n → w.cell? ⟨sb, so + k * 5 + 1, none⟩ = some (.string (S k))
  c2 : ∀ k, k < n → w.cell? ⟨sb, so + k * 5 + 2, none⟩ = some (.int .u32 (A k))
  c3 : ∀ k, k < n → w.cell? ⟨sb, so + k * 5 + 3, none⟩ = some (.int .i64 (D k))
  c4 : ∀ k, k < n → w.cell? ⟨sb, so + k * 5 + 4, none⟩ = some (.int .i64 (L k))
  bo : ∀ k, 0 ≤ op k ∧ op k ≤ 255
  bs : ∀ k, (S k).size ≤ 140737488355328
  ba : ∀ k, 0 ≤ A k ∧ A k ≤ 4294967295

set_option maxRecDepth 100000 in
theorem law_big (mem : Int) (sa : Option Addr) (n sc : Nat) (id : ByteArray) (w : World) (hn : 4096 < n) :
    Calls Yba.prog 3 #[.int .i64 mem, .slice sa n sc, .string id] w fun e w' => e = .returned (.bool true) ∧ Below w.heap.size w w' := by
  go_enter Yba.func3, Yba.ntmps3
  go_wp2
  go_ret
  exact ⟨rfl, Below.refl _ _⟩

/-- No id stands twice. -/
def Uniq (ids : List ByteArray) : Prop := ∀ k (hk : k < ids.length), pos ids ids[k] = k
theorem uniq_snoc {ids : List ByteArray} {s : ByteArray} (h : Uniq ids) (hs : ¬ pos ids s < ids.length) : Uniq (ids ++ [s]) := by
  intro k hk
  rcases Nat.lt_or_ge k ids.length with hlt | hge
  · have e : (ids ++ [s])[k] = ids[k] := List.getElem_append_left hlt
    rw [e, pos_snoc_old _ _ _ (by rw [h k hlt]; exact hlt), h k hlt]
  · have hk' : k = ids.length := by simp at hk; omega
    subst hk'
    have e : (ids ++ [s])[ids.length] = s := by simp
    rw [e, pos_snoc_new _ _ _ hs (by simp)]

/-- What holds at each round's head. -/
def LoopRel (w : World) (T bm : Nat) (ya : Option Addr) (yc k : Nat) (vi vd vl vt : Value) (wr : World) (ms : List Mem) (td : List Int) : Prop :=
  ∃ gs cs gt ct, Tab w.heap.size wr T bm gs cs gt ct ya yc ms td ∧ LRows w.heap.size wr gt vi vd vl vt ms td ∧ Below w.heap.size w wr ∧ ms.length ≤ k ∧ td.length ≤ k ∧ ((∀ m ∈ ms, m.1.size ≤ 140737488355328) ∧ Uniq (idsOf ms))

theorem one_str (s : ByteArray) : ∀ u ∈ [Value.string s], u.oneCell' = true := by intro u hu; simp at hu; subst hu; rfl

theorem LRows.at {B : Nat} {w : World} {gt : Nat} {vi vd vl vt : Value} {ms : List Mem} {td : List Int} (r : LRows B w gt vi vd vl vt ms td) (p : Nat) (hp : p < ms.length) (sid : ByteArray) (dt ln : Int) (hm : ms[p] = (sid, dt, ln)) :
    ∃ gd cd gl cl, vd = .slice (some ⟨gd, 0, none⟩) ms.length cd ∧ vl = .slice (some ⟨gl, 0, none⟩) ms.length cl ∧
      (∀ W : World, (Instr.indexAt 34 vd (.int .i64 (p : Int))).run Yba.prog W = .ok (.pointer (some ⟨gd, p, none⟩)) W) ∧ (∀ W : World, (Instr.indexAt 28 vl (.int .i64 (p : Int))).run Yba.prog W = .ok (.pointer (some ⟨gl, p, none⟩)) W) ∧
      w.cell? ⟨gd, p, none⟩ = some (.int .i64 dt) ∧ w.cell? ⟨gl, p, none⟩ = some (.int .i64 ln) ∧ w.frozen? ⟨gd, p, none⟩ = false ∧ w.frozen? ⟨gl, p, none⟩ = false ∧ gd < w.heap.size ∧ gl < w.heap.size ∧ gd ≠ gl := by
  obtain ⟨gd, cd, hd, id⟩ := idx_own Yba.underlying34 Yba.sizeOf2 r.rd p hp
  obtain ⟨gl, cl, hl, il⟩ := idx_own Yba.underlying28 Yba.sizeOf3 r.rl p hp
  have rd := r.rd
  have rl := r.rl
  rw [hd] at rd
  rw [hl] at rl
  have hne := tag_ne rd rl (by decide) gd rfl
  obtain ⟨_, _, _, l1⟩ := own_heap rd gd rfl
  obtain ⟨_, _, _, l2⟩ := own_heap rl gl rfl
  refine ⟨gd, cd, gl, cl, hd, hl, id, il, ?_, ?_, rd.frozenAt p, rl.frozenAt p, l1, l2, fun e => hne (by rw [e]; rfl)⟩
  · rw [rd.cellAt p (by omega)]; simp [dts, ints, List.getElem?_eq_getElem hp, hm]
  · rw [rl.cellAt p (by omega)]; simp [lns, ints, List.getElem?_eq_getElem hp, hm]

theorem LRows.rt_after {B : Nat} {w : World} {gt gd cd gl cl p : Nat} {vi vt : Value} {ms : List Mem} {td : List Int} {x y : Value} (r : LRows B w gt vi (.slice (some ⟨gd, 0, none⟩) ms.length cd) (.slice (some ⟨gl, 0, none⟩) ms.length cl) vt ms td) :
    ((w.setCell ⟨gd, p, none⟩ x).setCell ⟨gl, p, none⟩ y).ownsRow B 3 1 vt td.length (ints td) := by
  have K1 : Kept w (w.setCell ⟨gd, p, none⟩ x) (fun k => k = gd) := .setCell _ _ _ rfl
  have K2 : Kept (w.setCell ⟨gd, p, none⟩ x) ((w.setCell ⟨gd, p, none⟩ x).setCell ⟨gl, p, none⟩ y) (fun k => k = gl) := .setCell _ _ _ rfl
  exact K2.row (K1.row r.rt (fun g e h => tag_ne r.rt r.rd (by decide) g e (by subst h; rfl))) (fun g e h => (r.a1 g (by subst h; rfl)).2 e)
theorem news_set2 (w : World) (a b : Addr) (u v x : Value) (t : TypeId) : ∀ j y, [x][j]? = some y → (((w.setCell a u).setCell b v).alloc (.cells #[x] t)).cell? ((⟨w.heap.size, 0, none⟩ : Addr).add j) = some y := by
  have e : ((w.setCell a u).setCell b v).heap.size = w.heap.size := by rw [size_setCell, size_setCell]
  rw [← e]
  exact cell_one_new _ _ _

theorem Tab.lens {B : Nat} {w : World} {T bm gs cs gt ct : Nat} {ya : Option Addr} {yc : Nat} {ms : List Mem} {td : List Int} (t : Tab B w T bm gs cs gt ct ya yc ms td) (ty : TypeId) : (Builtin.len_ #[26] ty #[.map (some bm)]).run Yba.prog w = .ok (.int .i64 (ms.length : Int)) w := by
  have := t.2.2.2.1.len ty
  rw [idsOf_length] at this
  exact this
/-- What a round of the last check but one reads. -/
theorem seen_at {B : Nat} {w : World} {T bm gs cs gt ct : Nat} {ya : Option Addr} {yc : Nat} {ms : List Mem} {td : List Int} (t : Tab B w T bm gs cs gt ct ya yc ms td) (k : Nat) (hk : k < ms.length) (sid : ByteArray) (dt ln : Int) (hm : ms[k] = (sid, dt, ln)) :
    w.cell? ⟨gs, k * 4, none⟩ = some (.string sid) ∧ w.cell? ⟨gs, k * 4 + 1, none⟩ = some (.int .i64 dt) ∧ w.cell? ⟨gs, k * 4 + 2, none⟩ = some (.int .i64 ln) ∧ w.cell? ⟨gs, k * 4 + 3, none⟩ = some (.int .u64 (head sid : Int)) := by
  refine ⟨?_, ?_, ?_, ?_⟩
  · have := row_cell (n := 0) t.2.1 k 0 hk (by omega); rw [hm] at this; exact this
  · have := row_cell (n := 0) t.2.1 k 1 hk (by omega); rw [hm] at this; exact this
  · have := row_cell (n := 0) t.2.1 k 2 hk (by omega); rw [hm] at this; exact this
  · have := row_cell (n := 0) t.2.1 k 3 hk (by omega); rw [hm] at this; exact this
theorem id_at {B : Nat} {w : World} {gt : Nat} {vi vd vl vt : Value} {ms : List Mem} {td : List Int} (r : LRows B w gt vi vd vl vt ms td) (k : Nat) (hk : k < ms.length) (sid : ByteArray) (dt ln : Int) (hm : ms[k] = (sid, dt, ln)) :
    ∃ gi, (∀ W : World, (Instr.indexAt 33 vi (.int .i64 (k : Int))).run Yba.prog W = .ok (.pointer (some ⟨gi, k, none⟩)) W) ∧ w.cell? ⟨gi, k, none⟩ = some (.string sid) ∧ gi < w.heap.size := by
  obtain ⟨gi, ci, hi, ii⟩ := idx_own Yba.underlying33 Yba.sizeOf9 r.ri k hk
  have ri := r.ri
  rw [hi] at ri
  obtain ⟨_, _, _, l1⟩ := own_heap ri gi rfl
  refine ⟨gi, ii, ?_, l1⟩
  rw [ri.cellAt k (by omega)]; simp [strs, idsOf, List.getElem?_eq_getElem hk, hm]
theorem day_at {B : Nat} {w : World} {T bm gs cs gt ct : Nat} {ya : Option Addr} {yc : Nat} {vi vd vl vt : Value} {ms : List Mem} {td : List Int} (t : Tab B w T bm gs cs gt ct ya yc ms td) (r : LRows B w gt vi vd vl vt ms td) (k : Nat) (hk : k < td.length) :
    ∃ gT, (∀ W : World, (Instr.indexAt 28 vt (.int .i64 (k : Int))).run Yba.prog W = .ok (.pointer (some ⟨gT, k, none⟩)) W) ∧ w.cell? ⟨gT, k, none⟩ = some (.int .i64 td[k]) ∧ w.cell? ⟨gt, k, none⟩ = some (.int .i64 td[k]) ∧ gT < w.heap.size ∧ gt < w.heap.size := by
  obtain ⟨gT, cT, hT, iT⟩ := idx_own Yba.underlying28 Yba.sizeOf3 r.rt k hk
  have rt := r.rt
  rw [hT] at rt
  obtain ⟨_, _, _, l1⟩ := own_heap rt gT rfl
  refine ⟨gT, iT, ?_, ?_, l1, t.apart.2.2.2.2.2.2.2.2.2⟩
  · rw [rt.cellAt k (by omega)]; simp [ints, List.getElem?_eq_getElem hk]
  · rw [t.2.2.1.cellAt k (by omega)]; simp [ints, List.getElem?_eq_getElem hk]
theorem pos_at {ms : List Mem} (h : Uniq (idsOf ms)) (k : Nat) (hk : k < ms.length) (sid : ByteArray) (dt ln : Int) (hm : ms[k] = (sid, dt, ln)) : pos (idsOf ms) sid = k := by
  have := h k (by rw [idsOf_length]; exact hk)
  rw [show (idsOf ms)[k]'(by rw [idsOf_length]; exact hk) = sid by simp [idsOf, hm]] at this
  exact this
theorem look_at {B : Nat} {w : World} {T bm gs cs gt ct : Nat} {ya : Option Addr} {yc : Nat} {ms : List Mem} {td : List Int} (t : Tab B w T bm gs cs gt ct ya yc ms td) (hu : Uniq (idsOf ms)) (k : Nat) (hk : k < ms.length) (sid : ByteArray) (dt ln : Int) (hm : ms[k] = (sid, dt, ln)) (hs : sid.size ≤ 140737488355328) (nq : Nat) :
    (Instr.lookup 26 (.map (some bm)) (.string sid) true).run Yba.prog (w.drewN nq) = .ok (.tuple #[.int .i64 (k : Int), .bool true]) (w.drewN nq) := by
  have h := (t.2.2.2.1.kept (.drewN w nq (fun _ => False)) (fun h => h)).look sid (by unfold maxLen; omega)
  have hp := pos_at hu k hk sid dt ln hm
  rw [idsOf_length, hp, if_pos hk, decide_eq_true hk] at h
  exact h

theorem mem_arg (mem : Int) : ∃ m : Nat, m ≤ 64 ∧ wrap64 ((IntKind.u64.wrap mem).tmod 65) = (m : Int) := by
  have h : 0 ≤ IntKind.u64.wrap mem := by rw [IntKind.wrap_u64]; omega
  rw [Int.tmod_eq_emod_of_nonneg h, IntWalk.wrap64_in _ (by omega)]
  refine ⟨(IntKind.u64.wrap mem % 65).toNat, ?_, ?_⟩ <;> omega

theorem tab_new {w w1 : World} {m bm gs gt gy : Nat} (hB : w.heap.size ≤ w1.heap.size) (h1 : MapIs w1 bm []) (h2 : w1.ownsRow w.heap.size 43 4 (.slice (some ⟨gs, 0, none⟩) 0 m) 0 []) (h3 : w1.ownsRow w.heap.size 3 1 (.slice (some ⟨gt, 0, none⟩) 0 m) 0 []) (hb : Below w.heap.size w w1) (h4 : w.heap.size ≤ bm) :
    LoopRel w w1.heap.size bm (some ⟨gy, 0, none⟩) m 0 (.slice none 0 0) (.slice none 0 0) (.slice none 0 0) (.slice none 0 0) (w1.alloc (.cells #[.map (some bm), .slice (some ⟨gs, 0, none⟩) 0 m, .slice (some ⟨gt, 0, none⟩) 0 m, .slice (some ⟨gy, 0, none⟩) 0 m] 30)) [] [] := by
  have k := Kept.alloc w1 (.cells #[.map (some bm), .slice (some ⟨gs, 0, none⟩) 0 m, .slice (some ⟨gt, 0, none⟩) 0 m, .slice (some ⟨gy, 0, none⟩) 0 m] 30) (fun _ => False)
  refine ⟨gs, m, gt, m, ⟨heap_alloc_new w1 _, k.row h2 (fun _ _ h => h), k.row h3 (fun _ _ h => h), h1.kept k (fun h => h), hB, h4⟩, ⟨World.ownsRow_nil _ _ _ _, World.ownsRow_nil _ _ _ _, World.ownsRow_nil _ _ _ _, World.ownsRow_nil _ _ _ _, (fun g e => by cases e), (fun g e => by cases e)⟩, hb.alloc hB _, Nat.le_refl _, Nat.le_refl _, (fun m h => by cases h), (fun k hk => by cases hk)⟩

set_option maxRecDepth 100000 in
set_option maxHeartbeats 8000000 in
theorem law_small (mem : Int) (sa : Option Addr) (n sc sb so : Nat) (op : Nat → Int) (S : Nat → ByteArray) (A D L : Nat → Int) (id : ByteArray) (w : World) (hn : n ≤ 4096) (hid : id.size ≤ 140737488355328) (h : Script w sa n sc sb so op S A D L) :
    Calls Yba.prog 3 #[.int .i64 mem, .slice sa n sc, .string id] w fun e w' => e = .returned (.bool true) ∧ Below w.heap.size w w' := by
  have HS : Hid (Script w sa n sc sb so op S A D L) := h
  clear h
  obtain ⟨m, hm, hmem⟩ := mem_arg mem
  have HM : Hid (wrap64 ((IntKind.u64.wrap mem).tmod 65) = (m : Int)) := hmem
  clear hmem
  go_enter Yba.func3, Yba.ntmps3
  go_wp2_with fail
  go_loop [7, 8] (fun t i => ∃ (k : Nat) (T : Int), k ≤ n ∧ i = .int .i64 (k : Int) ∧ t = .int .i64 T ∧ 0 ≤ T ∧ T ≤ 140737488355328) (fun _ i => n - (intOf i).toNat)
  case atStart => exact ⟨0, (id.size : Int), by omega, rfl, rfl, by omega, by omega⟩
  case round =>
    obtain ⟨k, T, hk, rfl, rfl, hT0, hT1⟩ := hrel
    by_cases hlt : k < n
    · have hi := HS.out.idx k hlt
      have hc := HS.out.c1 k hlt
      have hb := HS.out.bs k
      go_wp2_with fail
      · go_ret
        exact ⟨rfl, Below.refl _ _⟩
      · go_round
        case rel => exact ⟨k + 1, T + ((S k).size : Int), by omega, by go_num, rfl, by omega, by omega⟩
        case measure => simp [intOf]; omega
    · go_wp2_with fail
      rw [HM.out]
      refine (new_any w.heap.size m hm w (Nat.le_refl _)).mono ?_
      rintro e w1 ⟨bm, gs, gt, gy, rfl, q1, q2, q3, q4, q5⟩
      have R0 : Hid _ := tab_new (gy := gy) q4.size q1 q2 q3 q4 q5
      clear q1 q2 q3 q4 q5
      go_wp2_with fail
      obtain ⟨w2, hw2⟩ : ∃ w2, w2 = w1.alloc (.cells #[.map (some bm), .slice (some ⟨gs, 0, none⟩) 0 m, .slice (some ⟨gt, 0, none⟩) 0 m, .slice (some ⟨gy, 0, none⟩) 0 m] 30) := ⟨_, rfl⟩
      rw [← hw2] at R0 ⊢
      clear hw2
      obtain ⟨TT, hTT⟩ : ∃ TT, TT = w1.heap.size := ⟨_, rfl⟩
      rw [← hTT] at R0 ⊢
      clear hTT HM
      go_loopw [10, 11, 12, 13, 14] (fun vi vd vl vt i wr => ∃ (k : Nat) (ms : List Mem) (td : List Int), k ≤ n ∧ i = .int .i64 (k : Int) ∧ LoopRel w TT bm (some ⟨gy, 0, none⟩) m k vi vd vl vt wr ms td) (fun _ _ _ _ i _ => n - (intOf i).toNat)
      case atStart => exact ⟨0, [], [], by omega, rfl, R0⟩
      case round =>
        clear R0 hk hT0 hT1 hlt
        obtain ⟨k, ms, td, hk, rfl, R⟩ := hrel
        obtain ⟨gs, cs, gt, ct, t, r, hbel, hml, htl, hsz⟩ := R
        have RT : Hid (Tab w.heap.size wr TT bm gs cs gt ct (some ⟨gy, 0, none⟩) m ms td) := t
        have RR : Hid (LRows w.heap.size wr gt u10 u11 u12 u13 ms td) := r
        have RB : Hid (Below w.heap.size w wr) := hbel
        have RZ : Hid ((∀ m ∈ ms, m.1.size ≤ 140737488355328) ∧ Uniq (idsOf ms)) := hsz
        have hsize : w.heap.size ≤ wr.heap.size := hbel.size
        clear t r hbel hsz
        by_cases hlt : k < n
        · have hi := HS.out.idx k hlt
          have hold : sb < w.heap.size := HS.out.old (by omega)
          have e0 : wr.cell? ⟨sb, so + k * 5, none⟩ = some (.int .u8 (op k)) := (RB.out.cell (p := ⟨sb, so + k * 5, none⟩) hold).trans (HS.out.c0 k hlt)
          have e1 : wr.cell? ⟨sb, so + k * 5 + 1, none⟩ = some (.string (S k)) := (RB.out.cell (p := ⟨sb, so + k * 5 + 1, none⟩) hold).trans (HS.out.c1 k hlt)
          have e2 : wr.cell? ⟨sb, so + k * 5 + 2, none⟩ = some (.int .u32 (A k)) := (RB.out.cell (p := ⟨sb, so + k * 5 + 2, none⟩) hold).trans (HS.out.c2 k hlt)
          have e3 : wr.cell? ⟨sb, so + k * 5 + 3, none⟩ = some (.int .i64 (D k)) := (RB.out.cell (p := ⟨sb, so + k * 5 + 3, none⟩) hold).trans (HS.out.c3 k hlt)
          have e4 : wr.cell? ⟨sb, so + k * 5 + 4, none⟩ = some (.int .i64 (L k)) := (RB.out.cell (p := ⟨sb, so + k * 5 + 4, none⟩) hold).trans (HS.out.c4 k hlt)
          have hbo := HS.out.bo k
          have hbs := HS.out.bs k
          have hba := HS.out.ba k
          generalize op k = OP at *
          generalize S k = SK at *
          generalize A k = AK at *
          generalize D k = DK at *
          generalize L k = LK at *
          have K1 : Hid (Kept wr (wr.alloc (.cells #[.int .u8 OP, .string SK, .int .u32 AK, .int .i64 DK, .int .i64 LK] 25)) (fun _ => False)) := Kept.alloc _ _ _
          by_cases hev : OP % 2 = 0
          · have hevb : (OP % 2 == 0) = true := by rw [hev]; rfl
            clear hev
            by_cases hp : pos (idsOf ms) SK < ms.length
            · go_wp2_with fail
              refine (add_hit w.heap.size TT bm gs cs gt ct (some ⟨gy, 0, none⟩) m ms td SK _ (RT.out.quiet K1.out) hbs (by omega) hp).mono ?_
              rintro e w3 ⟨rfl, rfl⟩
              go_wp2_with fail
              refine (find_hit w.heap.size u10 (idsOf ms) SK _ (by rw [idsOf_length]; omega) (by rw [idsOf_length]; exact (RR.out.quiet K1.out).ri) (by rw [idsOf_length]; exact hp)).mono ?_
              rintro e w3 ⟨rfl, rfl⟩
              go_wp2_with fail
              go_roundw
              case rel => exact ⟨k + 1, ms, td, by omega, by go_num, gs, cs, gt, ct, RT.out.quiet K1.out, RR.out.quiet K1.out, RB.out.alloc hsize _, by omega, by omega, RZ.out⟩
              case measure => simp [intOf]; omega
            · go_wp2_with fail
              refine (add_miss w.heap.size TT bm gs cs gt ct (some ⟨gy, 0, none⟩) m ms td SK _ (by simp; omega) (RT.out.quiet K1.out) hbs (by omega) hp).mono ?_
              rintro e w3 ⟨rfl, gs', cs', t3, k3, _⟩
              have R3 : Hid (LRows w.heap.size w3 gt u10 u11 u12 u13 ms td) := (RR.out.quiet K1.out).added (RT.out.quiet K1.out) k3
              have T3 : Hid (Tab w.heap.size w3 TT bm gs' cs' gt ct (some ⟨gy, 0, none⟩) m (ms ++ [(SK, 0, 0)]) td) := t3
              have hap := RT.out.apart
              have f1 : w3.cell? ⟨wr.heap.size, 1, none⟩ = some (.string SK) := k3.cell (by rw [World.cell?_alloc_new]; rfl) (by show ¬ (wr.heap.size = TT ∨ wr.heap.size = bm ∨ wr.heap.size = gs); omega)
              have B3 : Hid (Below w.heap.size w w3) := (RB.out.alloc hsize _).trans (k3.below (by simp; omega) (by intro j hj; obtain ⟨c2, _, hb2⟩ := row_block RT.out.2.1; have := RT.out.2.2.2.2; omega))
              have hz3 : w.heap.size ≤ w3.heap.size := B3.out.size
              clear t3 k3 hap
              go_wp2_with fail
              refine (find_miss w.heap.size u10 (idsOf ms) SK _ (by rw [idsOf_length]; omega) (by rw [idsOf_length]; exact R3.out.ri) (by rw [idsOf_length]; exact hp)).mono ?_
              rintro e w3' ⟨rfl, rfl⟩
              have hli := fun ty W => len_own Yba.underlying33 R3.out.ri ty W
              obtain ⟨i9, h9, h90, h91, h92⟩ := info_parts info9
              obtain ⟨i2, h2, h20, h21, h22⟩ := info_parts info2
              obtain ⟨i3, h3, h30, h31, h32⟩ := info_parts info3
              go_wp2_with (first | (at_builtin; refine wpList_append_lies _ rfl (.tmp 79) (.tmp 82) 33 rfl w.heap.size 9 i9 (.string ⟨#[]⟩) 1 16 Yba.underlying33 h9 h90 h91 h92 rfl (by decide) u10 ms.length _ rfl (R3.out.ri.alloc _) ⟨w3'.heap.size, 0, none⟩ 1 1 [.string SK] rfl rfl (cell_one_new _ _ _) (one_str SK) (by decide) (by unfold maxLen; omega) (by omega) (by simp; omega) (w3'.heap.size + 1) (by simp) ?_; intro gi ci w4 ho4 hgr4 hat4 hlt4; have hz4 : w3'.heap.size ≤ w4.heap.size := by { have := hgr4.size; simp at this; omega }) | (at_builtin; refine wpList_append_lies _ rfl (.tmp 84) (.tmp 85) 34 rfl w.heap.size 2 i2 (.int .i64 0) 1 8 Yba.underlying34 h2 h20 h21 h22 rfl (by decide) u11 ms.length _ rfl ((R3.out.rd_after hgr4).alloc _) ⟨w4.heap.size, 0, none⟩ 1 1 [.int .i64 0] rfl rfl (cell_one_new _ _ _) (ints_oneCell .i64 [0]) (by decide) (by unfold maxLen; omega) (by omega) (by simp; omega) (w4.heap.size + 1) (by simp) ?_; intro gd cd w5 ho5 hgr5 hat5 hlt5; have hz5 : w4.heap.size ≤ w5.heap.size := by { have := hgr5.size; simp at this; omega }) | (at_builtin; refine wpList_append_lies _ rfl (.tmp 87) (.tmp 88) 28 rfl w.heap.size 3 i3 (.int .i64 0) 1 8 Yba.underlying28 h3 h30 h31 h32 rfl (by decide) u12 ms.length _ rfl ((R3.out.rl_after hgr4 hgr5).alloc _) ⟨w5.heap.size, 0, none⟩ 1 1 [.int .i64 0] rfl rfl (cell_one_new _ _ _) (ints_oneCell .i64 [0]) (by decide) (by unfold maxLen; omega) (by omega) (by simp; omega) (w5.heap.size + 1) (by simp) ?_; intro gl cl w6 ho6 hgr6 hat6 hlt6))
              go_roundw
              case rel =>
                have E := three T3.out R3.out hgr4 ho4 hgr5 ho5 hgr6 ho6 hat6
                exact ⟨k + 1, ms ++ [(SK, 0, 0)], td, by omega, by go_num, gs', cs', gt, ct, E.1, E.2.1, B3.out.trans (E.2.2.below hz3 (fun _ h => h)), by simp; omega, by omega, by intro m hm; rcases List.mem_append.1 hm with h | h; exact RZ.out.1 m h; simp at h; subst h; exact hbs, by rw [show idsOf (ms ++ [(SK, 0, 0)]) = idsOf ms ++ [SK] by simp [idsOf]]; exact uniq_snoc RZ.out.2 (by rw [idsOf_length]; exact hp)⟩
              case measure => simp [intOf]; omega
          · have hod : (OP % 2 == 0) = false := beq_eq_false_iff_ne.2 hev
            clear hev
            have hli := fun ty W => len_own Yba.underlying33 RR.out.ri ty W
            by_cases h0 : ms.length = 0
            · have h0b : ((ms.length : Int) == 0) = true := by rw [h0]; rfl
              go_wp2_with fail
              go_roundw
              case rel => exact ⟨k + 1, ms, td, by omega, by go_num, gs, cs, gt, ct, RT.out.quiet K1.out, RR.out.quiet K1.out, RB.out.alloc hsize _, by omega, by omega, RZ.out⟩
              case measure => simp [intOf]; omega
            · have h0b : ((ms.length : Int) == 0) = false := beq_eq_false_iff_ne.2 (by omega)
              have hms : 0 < (ms.length : Int) := by omega
              have hmd : 0 ≤ AK % (ms.length : Int) ∧ AK % (ms.length : Int) < (ms.length : Int) := ⟨Int.emod_nonneg _ (by omega), Int.emod_lt_of_pos _ hms⟩
              obtain ⟨p, hpq⟩ := Int.eq_ofNat_of_zero_le hmd.1
              have hp : p < ms.length := by rw [hpq] at hmd; omega
              clear hmd
              obtain ⟨⟨sid, dt, ln⟩, hm⟩ : ∃ x, ms[p] = x := ⟨_, rfl⟩
              have HMP : Hid (ms[p] = (sid, dt, ln)) := hm
              clear hm
              obtain ⟨gd, cd, gl, cl, hvd, hvl, ixd, ixl, cld, cll, fd, fl, ld, ll, hdl⟩ := RR.out.at p hp sid dt ln HMP.out
              have HVD : Hid (u11 = .slice (some ⟨gd, 0, none⟩) ms.length cd) := hvd
              have HVL : Hid (u12 = .slice (some ⟨gl, 0, none⟩) ms.length cl) := hvl
              clear hvd hvl h0
              by_cases hhit : (ln != 0) = true ∧ (dt == DK) = true
              · obtain ⟨hh1, hh2⟩ := hhit
                go_wp2_with fail
                refine (row_hit TT bm gs cs gt ct ms.length td.length p sid dt ln DK LK _ ((RT.out.quiet K1.out).rowAt p hp sid dt ln HMP.out) (by omega) hp hh1 hh2).mono ?_
                rintro e w3 ⟨rfl, k3⟩
                have K3 : Hid (Kept wr w3 (fun _ => False)) := K1.out.trans k3 (fun _ _ h => h)
                have f3 : w3.cell? ⟨wr.heap.size, 3, none⟩ = some (.int .i64 DK) := k3.cell (by rw [World.cell?_alloc_new]; rfl) (fun h => h)
                have d3 : w3.cell? ⟨gd, p, none⟩ = some (.int .i64 dt) := K3.out.cell cld (fun h => h)
                have l3 : w3.cell? ⟨gl, p, none⟩ = some (.int .i64 ln) := K3.out.cell cll (fun h => h)
                clear k3 cld cll fd fl
                go_wp2_with fail
                go_quiet (fail)
                go_wp2_with fail
                go_roundw
                case rel =>
                  have K4 : Kept wr (w3.drewN nq) (fun _ => False) := K3.out.trans (.drewN _ _ (fun _ => False)) (fun _ _ h => h)
                  exact ⟨k + 1, ms, td, by omega, by go_num, gs, cs, gt, ct, RT.out.quiet K4, RR.out.quiet K4, RB.out.trans (K4.below hsize (fun _ h => h.elim)), by omega, by omega, RZ.out⟩
                case measure => simp [intOf]; omega
              · have hmiss : (ln != 0) = false ∨ ((ln != 0) = true ∧ (dt == DK) = false) := by
                  cases h1 : (ln != 0) with
                  | false => exact .inl rfl
                  | true =>
                    cases h2 : (dt == DK) with
                    | false => exact .inr ⟨rfl, rfl⟩
                    | true => exact absurd ⟨h1, h2⟩ hhit
                have HMI : Hid ((ln != 0) = false ∨ ((ln != 0) = true ∧ (dt == DK) = false)) := hmiss
                clear hhit
                obtain ⟨i3, h3, h30, h31, h32⟩ := info_parts info3
                rcases hmiss with hh | ⟨hh, hh2⟩
                all_goals
                  go_wp2_with fail
                  refine (row_miss w.heap.size TT bm gs cs gt ct (some ⟨gy, 0, none⟩) m ms td p sid dt ln DK LK _ (by simp; omega) (RT.out.quiet K1.out) (by omega) (by omega) hp HMP.out HMI.out).mono ?_
                  rintro e w3 ⟨rfl, gt', ct', t3, k3, hg3⟩
                  have R3 : Hid (LRows w.heap.size w3 gt' u10 u11 u12 u13 ms td) := (RR.out.quiet K1.out).rowed (RT.out.quiet K1.out) k3 hg3
                  have T3 : Hid (Tab w.heap.size w3 TT bm gs cs gt' ct' (some ⟨gy, 0, none⟩) m (ms.set p (sid, DK, LK)) (td ++ [(p : Int)])) := t3
                  have hap := RT.out.apart
                  have nn : ∀ j, j = wr.heap.size → ¬ (j = TT ∨ j = gs ∨ j = gt) := fun j hj => by omega
                  have f3 : w3.cell? ⟨wr.heap.size, 3, none⟩ = some (.int .i64 DK) := k3.cell (by rw [World.cell?_alloc_new]; rfl) (nn _ rfl)
                  have f4 : w3.cell? ⟨wr.heap.size, 4, none⟩ = some (.int .i64 LK) := k3.cell (by rw [World.cell?_alloc_new]; rfl) (nn _ rfl)
                  have B3 : Hid (Below w.heap.size w w3) := (RB.out.alloc hsize _).trans (k3.below (by simp; omega) (by intro j hj; obtain ⟨c2, _, hb2⟩ := row_block RT.out.2.1; obtain ⟨c3, _, hb3⟩ := row_block RT.out.2.2.1; have := RT.out.2.2.2.2; omega))
                  have hz3 : w.heap.size ≤ w3.heap.size := B3.out.size
                  obtain ⟨gd', cd', gl', cl', hvd', hvl', _, _, d3, l3, fd3, fl3, ld3, ll3, _⟩ := R3.out.at p hp sid dt ln HMP.out
                  have e1' := hvd'.symm.trans HVD.out
                  have e2' := hvl'.symm.trans HVL.out
                  cases e1'
                  cases e2'
                  clear t3 k3 hap nn hg3 cld cll fd fl hvd' hvl'
                  have hgw : gd ≠ wr.heap.size := by omega
                  have hlw : gl ≠ wr.heap.size := by omega
                  have hst : wr.heap.size < w3.heap.size := World.block_lt_of_cell? _ _ f3
                  go_wp2_with fail
                  go_quiet (fail)
                  obtain ⟨w4, hw4⟩ : ∃ w4, w4 = w3.drewN nq := ⟨_, rfl⟩
                  rw [← hw4]
                  have K4 : Kept w3 w4 (fun _ => False) := by rw [hw4]; exact .drewN _ _ _
                  have R4 : Hid (LRows w.heap.size w4 gt' u10 u11 u12 u13 ms td) := R3.out.quiet K4
                  have T4 : Hid (Tab w.heap.size w4 TT bm gs cs gt' ct' (some ⟨gy, 0, none⟩) m (ms.set p (sid, DK, LK)) (td ++ [(p : Int)])) := T3.out.quiet K4
                  have B4 : Hid (Below w.heap.size w w4) := B3.out.trans (K4.below hz3 (fun _ h => h.elim))
                  have hz4 : w.heap.size ≤ w4.heap.size := B4.out.size
                  have d4 : w4.cell? ⟨gd, p, none⟩ = some (.int .i64 dt) := K4.cell d3 (fun h => h)
                  have l4 : w4.cell? ⟨gl, p, none⟩ = some (.int .i64 ln) := K4.cell l3 (fun h => h)
                  have g3 : w4.cell? ⟨wr.heap.size, 3, none⟩ = some (.int .i64 DK) := K4.cell f3 (fun h => h)
                  have g4 : w4.cell? ⟨wr.heap.size, 4, none⟩ = some (.int .i64 LK) := K4.cell f4 (fun h => h)
                  have fd4 : w4.frozen? ⟨gd, p, none⟩ = false := by rw [hw4]; exact fd3
                  have fl4 : w4.frozen? ⟨gl, p, none⟩ = false := by rw [hw4]; exact fl3
                  clear hw4 K4 R3 T3 B3 hz3 d3 l3 f3 f4 fd3 fl3 ld3 ll3
                  have R5 : Hid (LRows w.heap.size w4 gt' u10 (.slice (some ⟨gd, 0, none⟩) ms.length cd) (.slice (some ⟨gl, 0, none⟩) ms.length cl) u13 ms td) := by have h := R4.out; rw [HVD.out, HVL.out] at h; exact h
                  go_wp2_with (at_builtin; refine wpList_append_lies _ rfl (.tmp 152) (.tmp 154) 28 rfl w.heap.size 3 i3 (.int .i64 0) 1 8 Yba.underlying28 h3 h30 h31 h32 rfl (by decide) u13 td.length _ rfl ((R5.out.rt_after (p := p)).alloc _) ⟨w4.heap.size, 0, none⟩ 1 1 [.int .i64 (p : Int)] rfl rfl (news_set2 _ _ _ _ _ _ _) (ints_oneCell .i64 [(p : Int)]) (by decide) (by unfold maxLen; omega) (by omega) (by simp; omega) (w4.heap.size + 1) (by simp) ?_; intro gT cT w6 ho6 hgr6 hat6 hlt6)
                  go_roundw
                  case rel =>
                    have E := rowed hp HMP.out T4.out R5.out hgr6 ho6 hat6
                    refine ⟨k + 1, ms.set p (sid, DK, LK), td ++ [(p : Int)], by omega, by go_num, gs, cs, gt', ct', E.1, ?_, B4.out.trans (E.2.2.below hz4 (fun _ h => h)), by simp; omega, by simp; omega, ?_, by rw [idsOf_set ms p hp sid dt ln DK LK HMP.out]; exact RZ.out.2⟩
                    · have h := E.2.1
                      rw [← HVD.out, ← HVL.out] at h
                      exact h
                    · intro x hx
                      rcases List.mem_or_eq_of_mem_set hx with h | h
                      · exact RZ.out.1 x h
                      · subst h
                        have := RZ.out.1 ms[p] (List.getElem_mem hp)
                        rw [HMP.out] at this
                        exact this
                  case measure => simp [intOf]; omega
        · by_cases hp : pos (idsOf ms) id < ms.length
          · go_wp2_with fail
            refine (add_hit w.heap.size TT bm gs cs gt ct (some ⟨gy, 0, none⟩) m ms td id _ RT.out hid (by omega) hp).mono ?_
            rintro e w3 ⟨rfl, rfl⟩
            go_wp2_with fail
            refine (find_hit w.heap.size u10 (idsOf ms) id _ (by rw [idsOf_length]; omega) (by rw [idsOf_length]; exact RR.out.ri) (by rw [idsOf_length]; exact hp)).mono ?_
            rintro e wz ⟨rfl, rfl⟩
            have hli := fun ty W => len_own Yba.underlying33 RR.out.ri ty W
            have hml := fun ty => RT.out.lens ty
            obtain ⟨c0, c1, c2, c3, _⟩ := RT.out.cells
            go_wp2_with fail
            clear hml c0 c1 c2 c3
            have HL : Hid (ms.length ≤ 4097 ∧ td.length ≤ 4097) := ⟨by omega, by omega⟩
            have FT : Hid (Tab w.heap.size wz TT bm gs cs gt ct (some ⟨gy, 0, none⟩) m ms td) := RT.out
            have FR : Hid (LRows w.heap.size wz gt u10 u11 u12 u13 ms td) := RR.out
            have FZ : Hid ((∀ m ∈ ms, m.1.size ≤ 140737488355328) ∧ Uniq (idsOf ms)) := RZ.out
            have FB : Hid (Below w.heap.size w wz) := RB.out
            clear RT RR RZ RB
            have hNT := HL.out
            go_loopw [23] (fun i wq => ∃ k : Nat, k ≤ ms.length ∧ i = .int .i64 (k : Int) ∧ Kept wz wq (fun _ => False)) (fun i _ => ms.length - (intOf i).toNat)
            case atStart => exact ⟨0, by omega, rfl, Kept.refl _ _⟩
            case round =>
              obtain ⟨q, hq, rfl, kq⟩ := hrel
              have KQ : Hid (Kept wz wr (fun _ => False)) := kq
              clear kq
              have TQ : Hid (Tab w.heap.size wr TT bm gs cs gt ct (some ⟨gy, 0, none⟩) m ms td) := (FT.out.quiet KQ.out)
              have RQ : Hid (LRows w.heap.size wr gt u10 u11 u12 u13 ms td) := (FR.out.quiet KQ.out)
              by_cases hqn : q < ms.length
              · obtain ⟨⟨sid, dt, ln⟩, hmq⟩ : ∃ x, ms[q] = x := ⟨_, rfl⟩
                have HMQ : Hid (ms[q] = (sid, dt, ln)) := hmq
                clear hmq
                obtain ⟨s0, s1, s2, s3⟩ := seen_at TQ.out q hqn sid dt ln HMQ.out
                obtain ⟨gi, ixi, cci, lgi⟩ := id_at RQ.out q hqn sid dt ln HMQ.out
                obtain ⟨gd, cd, gl, cl, _, _, ixd, ixl, ccd, ccl, _, _, lgd, lgl, _⟩ := RQ.out.at q hqn sid dt ln HMQ.out
                obtain ⟨_, c1, _, _, _⟩ := TQ.out.cells
                have hap := TQ.out.apart
                have lgs := hap.2.2.2.2.2.2.2.2.1
                have lT := hap.2.2.2.2.2.2.1
                have hss : sid.size ≤ 140737488355328 := by have h := FZ.out.1 ms[q] (List.getElem_mem hqn); rw [HMQ.out] at h; exact h
                have hqi : (0 : Int) ≤ (q : Int) := by omega
                have hqj : (q : Int) < (ms.length : Int) := by omega
                have C8 : Hid (∀ W, Calls Yba.prog 8 #[.string sid] W fun e w' => e = .returned (.int .u64 (head sid : Int)) ∧ w' = W) := fun W => zhead_any sid (by unfold maxLen; omega) W
                clear hap
                go_wp2_with fail
                go_quiet ((go_at_call 8; exact Calls.quiet_of_same (C8.out _)))
                obtain ⟨wu, hwu⟩ : ∃ wu, wu = (wr.alloc (.cells #[.string sid, .int .i64 dt, .int .i64 ln, .int .u64 (head sid : Int)] 43)).drewN nq := ⟨_, rfl⟩
                rw [← hwu]
                have KU : Kept wr wu (fun _ => False) := by rw [hwu]; exact (Kept.alloc wr _ _).trans (.drewN _ _ (fun _ => False)) (fun _ _ h => h)
                have KV : Hid (Kept wz wu (fun _ => False)) := KQ.out.trans KU (fun _ _ h => h)
                have TU : Hid (Tab w.heap.size wu TT bm gs cs gt ct (some ⟨gy, 0, none⟩) m ms td) := TQ.out.quiet KU
                have ccu : wu.cell? ⟨gi, q, none⟩ = some (.string sid) := KU.cell cci (fun h => h)
                have hlook := fun nq => look_at TU.out FZ.out.2 q hqn sid dt ln HMQ.out hss nq
                clear hwu KU c1 s0 s1 s2 s3 cci ccd ccl TQ RQ KQ
                obtain ⟨c0, _, _, _, _⟩ := TU.out.cells
                go_wp2_with fail
                go_quiet (fail)
                go_wp2_with fail
                go_roundw
                case rel => exact ⟨q + 1, by omega, by go_num, KV.out.trans (.drewN _ _ (fun _ => False)) (fun _ _ h => h)⟩
                case measure => simp [intOf]; omega
              · obtain ⟨_, _, c2, c3, _⟩ := TQ.out.cells
                have hlt4 := fun ty W => len_own Yba.underlying28 RQ.out.rt ty W
                go_wp2_with fail
                clear c2 c3
                obtain ⟨wy, hwy⟩ : ∃ wy, wy = wr := ⟨_, rfl⟩
                go_loopw [27] (fun i wq => ∃ k : Nat, k ≤ td.length ∧ i = .int .i64 (k : Int) ∧ Kept wz wq (fun _ => False)) (fun i _ => td.length - (intOf i).toNat)
                case atStart => exact ⟨0, by omega, rfl, KQ.out⟩
                case round =>
                  clear KQ TQ RQ hwy
                  obtain ⟨z, hz, rfl, kz⟩ := hrel
                  have KZ : Hid (Kept wz wr (fun _ => False)) := kz
                  clear kz
                  have TQ : Hid (Tab w.heap.size wr TT bm gs cs gt ct (some ⟨gy, 0, none⟩) m ms td) := (FT.out.quiet KZ.out)
                  have RQ : Hid (LRows w.heap.size wr gt u10 u11 u12 u13 ms td) := (FR.out.quiet KZ.out)
                  by_cases hzn : z < td.length
                  · obtain ⟨gT, ixt, ct1, ct2, _, _⟩ := day_at TQ.out RQ.out z hzn
                    obtain ⟨_, _, c2, _, _⟩ := TQ.out.cells
                    have hzi : (0 : Int) ≤ (z : Int) := by omega
                    have hzj : (z : Int) < (td.length : Int) := by omega
                    generalize td[z] = tz at *
                    go_wp2_with fail
                    go_quiet (fail)
                    go_wp2_with fail
                    go_roundw
                    case rel => exact ⟨z + 1, by omega, by go_num, KZ.out.trans (.drewN _ _ (fun _ => False)) (fun _ _ h => h)⟩
                    case measure => simp [intOf]; omega
                  · go_wp2_with fail
                    go_ret
                    exact ⟨rfl, FB.out.trans (KZ.out.below FB.out.size (fun _ h => h.elim))⟩
          · go_wp2_with fail
            refine (add_miss w.heap.size TT bm gs cs gt ct (some ⟨gy, 0, none⟩) m ms td id _ hsize RT.out hid (by omega) hp).mono ?_
            rintro e w3 ⟨rfl, gs', cs', t3, k3, _⟩
            have R3 : Hid (LRows w.heap.size w3 gt u10 u11 u12 u13 ms td) := RR.out.added RT.out k3
            have T3 : Hid (Tab w.heap.size w3 TT bm gs' cs' gt ct (some ⟨gy, 0, none⟩) m (ms ++ [(id, 0, 0)]) td) := t3
            have B3 : Hid (Below w.heap.size w w3) := RB.out.trans (k3.below hsize (by intro j hj; obtain ⟨c2, _, hb2⟩ := row_block RT.out.2.1; have := RT.out.2.2.2.2; omega))
            have hz3 : w.heap.size ≤ w3.heap.size := B3.out.size
            clear t3 k3
            go_wp2_with fail
            refine (find_miss w.heap.size u10 (idsOf ms) id _ (by rw [idsOf_length]; omega) (by rw [idsOf_length]; exact R3.out.ri) (by rw [idsOf_length]; exact hp)).mono ?_
            rintro e w3' ⟨rfl, rfl⟩
            have hli := fun ty W => len_own Yba.underlying33 R3.out.ri ty W
            obtain ⟨i9, h9, h90, h91, h92⟩ := info_parts info9
            obtain ⟨i2, h2, h20, h21, h22⟩ := info_parts info2
            obtain ⟨i3, h3, h30, h31, h32⟩ := info_parts info3
            go_wp2_with (first | (at_builtin; refine wpList_append_lies _ rfl (.tmp 165) (.tmp 167) 33 rfl w.heap.size 9 i9 (.string ⟨#[]⟩) 1 16 Yba.underlying33 h9 h90 h91 h92 rfl (by decide) u10 ms.length _ rfl (R3.out.ri.alloc _) ⟨w3'.heap.size, 0, none⟩ 1 1 [.string id] rfl rfl (cell_one_new _ _ _) (one_str id) (by decide) (by unfold maxLen; omega) (by omega) (by simp; omega) (w3'.heap.size + 1) (by simp) ?_; intro gi ci w4 ho4 hgr4 hat4 hlt4; have hz4 : w3'.heap.size ≤ w4.heap.size := by { have := hgr4.size; simp at this; omega }) | (at_builtin; refine wpList_append_lies _ rfl (.tmp 169) (.tmp 170) 34 rfl w.heap.size 2 i2 (.int .i64 0) 1 8 Yba.underlying34 h2 h20 h21 h22 rfl (by decide) u11 ms.length _ rfl ((R3.out.rd_after hgr4).alloc _) ⟨w4.heap.size, 0, none⟩ 1 1 [.int .i64 0] rfl rfl (cell_one_new _ _ _) (ints_oneCell .i64 [0]) (by decide) (by unfold maxLen; omega) (by omega) (by simp; omega) (w4.heap.size + 1) (by simp) ?_; intro gd cd w5 ho5 hgr5 hat5 hlt5; have hz5 : w4.heap.size ≤ w5.heap.size := by { have := hgr5.size; simp at this; omega }) | (at_builtin; refine wpList_append_lies _ rfl (.tmp 172) (.tmp 173) 28 rfl w.heap.size 3 i3 (.int .i64 0) 1 8 Yba.underlying28 h3 h30 h31 h32 rfl (by decide) u12 ms.length _ rfl ((R3.out.rl_after hgr4 hgr5).alloc _) ⟨w5.heap.size, 0, none⟩ 1 1 [.int .i64 0] rfl rfl (cell_one_new _ _ _) (ints_oneCell .i64 [0]) (by decide) (by unfold maxLen; omega) (by omega) (by simp; omega) (w5.heap.size + 1) (by simp) ?_; intro gl cl w6 ho6 hgr6 hat6 hlt6; have E := three T3.out R3.out hgr4 ho4 hgr5 ho5 hgr6 ho6 hat6; obtain ⟨c0, c1, _, _, _⟩ := E.1.cells; have hml := fun ty => E.1.lens ty; have FT0 : Hid _ := E.1; have FR0 : Hid _ := E.2.1; have FK0 : Hid _ := E.2.2; clear E))
            have FB0 : Hid (Below w.heap.size w w6) := B3.out.trans (FK0.out.below hz3 (fun _ h => h))
            have FZ0 : Hid ((∀ m ∈ ms ++ [(id, 0, 0)], m.1.size ≤ 140737488355328) ∧ Uniq (idsOf (ms ++ [(id, 0, 0)]))) := ⟨by intro m hm; rcases List.mem_append.1 hm with h | h; exact RZ.out.1 m h; simp at h; subst h; exact hid, by rw [show idsOf (ms ++ [(id, 0, 0)]) = idsOf ms ++ [id] by simp [idsOf]]; exact uniq_snoc RZ.out.2 (by rw [idsOf_length]; exact hp)⟩
            have HL0 : Hid ((ms ++ [(id, 0, 0)]).length ≤ 4097 ∧ td.length ≤ 4097) := ⟨by simp; omega, by omega⟩
            clear hml c0 c1 hli R3 T3 B3 FK0 ho4 hgr4 hat4 hlt4 hz4 ho5 hgr5 hat5 hlt5 hz5 ho6 hgr6 hat6 hlt6 RT RR RZ RB h9 h90 h91 h92 h2 h20 h21 h22 h3 h30 h31 h32
            obtain ⟨vi, hvi⟩ : ∃ v, v = Value.slice (some ⟨gi, 0, none⟩) (ms.length + 1) ci := ⟨_, rfl⟩
            obtain ⟨vd, hvd⟩ : ∃ v, v = Value.slice (some ⟨gd, 0, none⟩) (ms.length + 1) cd := ⟨_, rfl⟩
            obtain ⟨vl, hvl⟩ : ∃ v, v = Value.slice (some ⟨gl, 0, none⟩) (ms.length + 1) cl := ⟨_, rfl⟩
            obtain ⟨ms0, hms0⟩ : ∃ x, x = ms ++ [(id, 0, 0)] := ⟨_, rfl⟩
            have FR : Hid (LRows w.heap.size w6 gt vi vd vl u13 ms0 td) := by rw [hvi, hvd, hvl, hms0]; exact FR0.out
            have FT : Hid (Tab w.heap.size w6 TT bm gs' cs' gt ct (some ⟨gy, 0, none⟩) m ms0 td) := by rw [hms0]; exact FT0.out
            have FZ : Hid ((∀ m ∈ ms0, m.1.size ≤ 140737488355328) ∧ Uniq (idsOf ms0)) := by rw [hms0]; exact FZ0.out
            have HL : Hid (ms0.length ≤ 4097 ∧ td.length ≤ 4097) := by rw [hms0]; exact HL0.out
            have FB : Hid (Below w.heap.size w w6) := FB0.out
            rw [← hvi, ← hvd, ← hvl]
            clear hvi hvd hvl hms0 FR0 FT0 FZ0 HL0 FB0
            have hli := fun ty W => len_own Yba.underlying33 FR.out.ri ty W
            have hNT := HL.out
            go_loopw [23] (fun i wq => ∃ k : Nat, k ≤ ms0.length ∧ i = .int .i64 (k : Int) ∧ Kept w6 wq (fun _ => False)) (fun i _ => ms0.length - (intOf i).toNat)
            case atStart => exact ⟨0, by omega, rfl, Kept.refl _ _⟩
            case round =>
              obtain ⟨q, hq, rfl, kq⟩ := hrel
              have KQ : Hid (Kept w6 wr (fun _ => False)) := kq
              clear kq
              have TQ : Hid (Tab w.heap.size wr TT bm gs' cs' gt ct (some ⟨gy, 0, none⟩) m ms0 td) := (FT.out.quiet KQ.out)
              have RQ : Hid (LRows w.heap.size wr gt vi vd vl u13 ms0 td) := (FR.out.quiet KQ.out)
              by_cases hqn : q < ms0.length
              · obtain ⟨⟨sid, dt, ln⟩, hmq⟩ : ∃ x, ms0[q] = x := ⟨_, rfl⟩
                have HMQ : Hid (ms0[q] = (sid, dt, ln)) := hmq
                clear hmq
                obtain ⟨s0, s1, s2, s3⟩ := seen_at TQ.out q hqn sid dt ln HMQ.out
                obtain ⟨gi, ixi, cci, lgi⟩ := id_at RQ.out q hqn sid dt ln HMQ.out
                obtain ⟨gd, cd, gl, cl, _, _, ixd, ixl, ccd, ccl, _, _, lgd, lgl, _⟩ := RQ.out.at q hqn sid dt ln HMQ.out
                obtain ⟨_, c1, _, _, _⟩ := TQ.out.cells
                have hap := TQ.out.apart
                have lgs := hap.2.2.2.2.2.2.2.2.1
                have lT := hap.2.2.2.2.2.2.1
                have hss : sid.size ≤ 140737488355328 := by have h := FZ.out.1 ms0[q] (List.getElem_mem hqn); rw [HMQ.out] at h; exact h
                have hqi : (0 : Int) ≤ (q : Int) := by omega
                have hqj : (q : Int) < (ms0.length : Int) := by omega
                have C8 : Hid (∀ W, Calls Yba.prog 8 #[.string sid] W fun e w' => e = .returned (.int .u64 (head sid : Int)) ∧ w' = W) := fun W => zhead_any sid (by unfold maxLen; omega) W
                clear hap
                go_wp2_with fail
                go_quiet ((go_at_call 8; exact Calls.quiet_of_same (C8.out _)))
                obtain ⟨wu, hwu⟩ : ∃ wu, wu = (wr.alloc (.cells #[.string sid, .int .i64 dt, .int .i64 ln, .int .u64 (head sid : Int)] 43)).drewN nq := ⟨_, rfl⟩
                rw [← hwu]
                have KU : Kept wr wu (fun _ => False) := by rw [hwu]; exact (Kept.alloc wr _ _).trans (.drewN _ _ (fun _ => False)) (fun _ _ h => h)
                have KV : Hid (Kept w6 wu (fun _ => False)) := KQ.out.trans KU (fun _ _ h => h)
                have TU : Hid (Tab w.heap.size wu TT bm gs' cs' gt ct (some ⟨gy, 0, none⟩) m ms0 td) := TQ.out.quiet KU
                have ccu : wu.cell? ⟨gi, q, none⟩ = some (.string sid) := KU.cell cci (fun h => h)
                have hlook := fun nq => look_at TU.out FZ.out.2 q hqn sid dt ln HMQ.out hss nq
                clear hwu KU c1 s0 s1 s2 s3 cci ccd ccl TQ RQ KQ
                obtain ⟨c0, _, _, _, _⟩ := TU.out.cells
                go_wp2_with fail
                go_quiet (fail)
                go_wp2_with fail
                go_roundw
                case rel => exact ⟨q + 1, by omega, by go_num, KV.out.trans (.drewN _ _ (fun _ => False)) (fun _ _ h => h)⟩
                case measure => simp [intOf]; omega
              · obtain ⟨_, _, c2, c3, _⟩ := TQ.out.cells
                have hlt4 := fun ty W => len_own Yba.underlying28 RQ.out.rt ty W
                go_wp2_with fail
                clear c2 c3
                obtain ⟨wy, hwy⟩ : ∃ wy, wy = wr := ⟨_, rfl⟩
                go_loopw [27] (fun i wq => ∃ k : Nat, k ≤ td.length ∧ i = .int .i64 (k : Int) ∧ Kept w6 wq (fun _ => False)) (fun i _ => td.length - (intOf i).toNat)
                case atStart => exact ⟨0, by omega, rfl, KQ.out⟩
                case round =>
                  clear KQ TQ RQ hwy
                  obtain ⟨z, hz, rfl, kz⟩ := hrel
                  have KZ : Hid (Kept w6 wr (fun _ => False)) := kz
                  clear kz
                  have TQ : Hid (Tab w.heap.size wr TT bm gs' cs' gt ct (some ⟨gy, 0, none⟩) m ms0 td) := (FT.out.quiet KZ.out)
                  have RQ : Hid (LRows w.heap.size wr gt vi vd vl u13 ms0 td) := (FR.out.quiet KZ.out)
                  by_cases hzn : z < td.length
                  · obtain ⟨gT, ixt, ct1, ct2, _, _⟩ := day_at TQ.out RQ.out z hzn
                    obtain ⟨_, _, c2, _, _⟩ := TQ.out.cells
                    have hzi : (0 : Int) ≤ (z : Int) := by omega
                    have hzj : (z : Int) < (td.length : Int) := by omega
                    generalize td[z] = tz at *
                    go_wp2_with fail
                    go_quiet (fail)
                    go_wp2_with fail
                    go_roundw
                    case rel => exact ⟨z + 1, by omega, by go_num, KZ.out.trans (.drewN _ _ (fun _ => False)) (fun _ _ h => h)⟩
                    case measure => simp [intOf]; omega
                  · go_wp2_with fail
                    go_ret
                    exact ⟨rfl, FB.out.trans (KZ.out.below FB.out.size (fun _ h => h.elim))⟩
end Go.Proofs.Ybulkdmoy
