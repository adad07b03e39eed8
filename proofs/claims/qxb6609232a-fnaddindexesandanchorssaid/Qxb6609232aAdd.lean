import Derived.Test.Qxb6609232aProg
import Derived.Test.Qxb6609232aHeap
import Derived.BigQuiet
import Derived.Deep.QuietTactic
import Derived.Deep.RegionLaw
import Derived.Deep.DrawnRows
import Derived.Laws.Pointers
namespace Go.Proofs.Qxb6609232a.T
open Go.RowKit
set_option linter.unusedVariables false
attribute [local go_sem ↓] Go.wp_at_zero Go.wp_at_succ
theorem info63 : (Try.prog.info? 63).map (fun i => (i.zero, i.size, i.bytes)) = some (some (.agg #[.int .u32 0, .int .u32 0, .int .u32 0, .int .u32 0, .int .u8 0, .int .u8 0, .int .u8 0, .int .u8 0]), 8, 20) := by kernel_rfl
theorem far {w W w1 : World} {g : Nat} (hgrow : W.grownBy w1 (some g)) (hW : ∀ b, b < w.heap.size → W.heap[b]? = w.heap[b]?) : ∀ b, b < w.heap.size → b ≠ g → w1.heap[b]? = w.heap[b]? := fun b hb hne => by
  rw [hgrow.block b (by have := hW b hb; rw [Array.getElem?_eq_getElem hb] at this; exact lt_of_some this) (fun x => hne (Option.some.inj x))]; exact hW b hb
theorem two_alloc (w : World) (X Y : Obj) : ((w.alloc X).alloc Y).heap[w.heap.size + 1]? = some Y := by
  have := heap_alloc_new (w.alloc X) Y
  simpa using this
theorem three_alloc (w : World) (X Y Z : Obj) : (((w.alloc X).alloc Y).alloc Z).heap[w.heap.size + 1 + 1]? = some Z := by
  have := heap_alloc_new ((w.alloc X).alloc Y) Z
  simpa using this
theorem far_none {w W w1 : World} (hgrow : W.grownBy w1 none) (hW : ∀ b, b < w.heap.size → W.heap[b]? = w.heap[b]?) : ∀ b, b < w.heap.size → w1.heap[b]? = w.heap[b]? := fun b hb => by
  rw [hgrow.block b (by have := hW b hb; rw [Array.getElem?_eq_getElem hb] at this; exact lt_of_some this) (fun x => by cases x)]; exact hW b hb
/-- a record's cells -/
abbrev rec8 (r0 r1 r2 r3 r4 r5 r6 r7 : Int) : Array Value := #[.int .u32 r0, .int .u32 r1, .int .u32 r2, .int .u32 r3, .int .u8 r4, .int .u8 r5, .int .u8 r6, .int .u8 r7]
/-- behind an add -/
def Added (B : Nat) (w : World) (bt : Nat) (rs : List (List Value)) (w' : World) : Prop := ∃ nb vb tcs G C, nb * 4096 < rs.length + 4096 ∧ rs.length ≤ nb * 4096 ∧ (nb = 0 → vb = .slice none 0 0) ∧ TI B w' bt rs nb vb tcs G C ∧ Fr B w w'
set_option maxRecDepth 100000 in
set_option maxHeartbeats 3200000 in
theorem add_room (B bt gb m cb k : Nat) (rs : List (List Value)) (tcs2 : Array Value) (G2 C2 : Nat → Nat) (r0 r1 r2 r3 r4 r5 r6 r7 : Int) (w : World) (hB : B ≤ w.heap.size)
    (h : TI B w bt rs (m + 1) (.slice (some ⟨gb, 0, none⟩) (m + 1) cb) tcs2 G2 C2) (hlk : rs.length = k) (hk : k < 16384) (hm1 : 4096 * m ≤ k) (hm2 : k < 4096 * m + 4096) (hnz : k ≠ 0) :
    Calls Try.prog 15 #[.pointer (some ⟨bt, 2, none⟩), .agg (rec8 r0 r1 r2 r3 r4 r5 r6 r7)] w fun e w' => e = .returned (.int .u32 rs.length) ∧ Added B w bt (rs ++ [(rec8 r0 r1 r2 r3 r4 r5 r6 r7).toList]) w' := by
  have HK := hide hlk
  have l2 := lt_of_some h.tree
  have c2 := (cell_of_row w bt 2 _ _ _ h.tree).trans h.t2
  have c3 := (cell_of_row w bt 3 _ _ _ h.tree).trans h.t3
  rw [hlk] at c3
  clear hlk
  have H0 := hide h
  clear h
  have d1 : (k : Int) / 4096 = m := by omega
  have d2 : ((m : Int) == (m : Int) + 1) = false := beq_eq_false_iff_ne.2 (by omega)
  have d3 : (((m : Int) + 1) == 0) = false := beq_eq_false_iff_ne.2 (by omega)
  have d4 : (0 : Int) ≤ m := by omega
  have d5 : (m : Int) ≤ 3 := by omega
  by_cases hm : m = 0
  · have hm' : ((m : Int) == 0) = true := beq_iff_eq.2 (by omega)
    clear hm
    go_enter Try.func15, Try.ntmps15
    go_wp2_with fail
    have HT2 := hide (H0.out.alloc (.cells (rec8 r0 r1 r2 r3 r4 r5 r6 r7) 63))
    have HF := hide ((Fr.refl B w).alloc hB (.cells (rec8 r0 r1 r2 r3 r4 r5 r6 r7) 63))
    have hbx := heap_alloc_new w (.cells (rec8 r0 r1 r2 r3 r4 r5 r6 r7) 63)
    have hBE : B ≤ (w.alloc (.cells (rec8 r0 r1 r2 r3 r4 r5 r6 r7) 63)).heap.size := by simp; omega
    clear l2 c2 c3
    generalize w.alloc (.cells (rec8 r0 r1 r2 r3 r4 r5 r6 r7) 63) = w2 at *
    obtain ⟨gb', cb', bcs, e0, hgbB, hgb, hcb, hbs, hbc⟩ := HT2.out.rows (Nat.succ_pos m)
    cases e0
    obtain ⟨hGB, cur, hG, hcap, hsz, htk⟩ := HT2.out.row (Nat.lt_succ_self m)
    have own := HT2.out.chunk m (Nat.lt_succ_self m)
    have n1 : gb ≠ G2 m := row_apart hgb hG (by decide)
    have n2 : bt ≠ G2 m := row_apart HT2.out.tree hG (by decide)
    have n3 : gb ≠ bt := row_apart hgb HT2.out.tree (by decide)
    have l2 := lt_of_some HT2.out.tree
    have l3 := lt_of_some hgb
    have l4 := lt_of_some hG
    have lx := lt_of_some hbx
    have c2 := (cell_of_row w2 bt 2 _ _ _ HT2.out.tree).trans HT2.out.t2
    have c3 := (cell_of_row w2 bt 3 _ _ _ HT2.out.tree).trans HT2.out.t3
    have f3 := frozen_of_row 3 HT2.out.tree
    have cl := (cell_of_row w2 gb m _ _ _ hgb).trans (hbc m (Nat.lt_succ_self m))
    have fl := frozen_of_row m hgb
    have x0 : w2.cell? ⟨w.heap.size, 0, none⟩ = some (.int .u32 r0) := cell_of_row w2 w.heap.size 0 _ _ _ hbx
    have x1 : w2.cell? ⟨w.heap.size, 1, none⟩ = some (.int .u32 r1) := cell_of_row w2 w.heap.size 1 _ _ _ hbx
    have x2 : w2.cell? ⟨w.heap.size, 2, none⟩ = some (.int .u32 r2) := cell_of_row w2 w.heap.size 2 _ _ _ hbx
    have x3 : w2.cell? ⟨w.heap.size, 3, none⟩ = some (.int .u32 r3) := cell_of_row w2 w.heap.size 3 _ _ _ hbx
    have x4 : w2.cell? ⟨w.heap.size, 4, none⟩ = some (.int .u8 r4) := cell_of_row w2 w.heap.size 4 _ _ _ hbx
    have x5 : w2.cell? ⟨w.heap.size, 5, none⟩ = some (.int .u8 r5) := cell_of_row w2 w.heap.size 5 _ _ _ hbx
    have x6 : w2.cell? ⟨w.heap.size, 6, none⟩ = some (.int .u8 r6) := cell_of_row w2 w.heap.size 6 _ _ _ hbx
    have x7 : w2.cell? ⟨w.heap.size, 7, none⟩ = some (.int .u8 r7) := cell_of_row w2 w.heap.size 7 _ _ _ hbx
    have hln : (ck rs m).length ≤ 4096 := by rw [ck_len]; omega
    generalize hcl : (ck rs m).length = ln at *
    have HL := hide hcl
    unfold bval at own cl
    rw [hcl] at own cl
    rw [HK.out] at c3
    clear hcl htk hgb hG hbc hcap hsz hbs hcb hbx
    have clA : ∀ (n : Nat) (o : Obj), ((w2.drewN n).alloc o).cell? ⟨gb, m, none⟩ = some (.slice (some ⟨G2 m, 0, none⟩) ln (C2 m)) := fun n o => (World.cell?_of_block (w := w2) (a := ⟨gb, m, none⟩) (Below.heap_alloc (w2.drewN n) o gb l3)).trans cl
    obtain ⟨i1, hi1, hy0, hy1, hy2⟩ := info_parts info63
    go_quiet (fail)
    go_wp2_with fail
    go_region_law ((refine step_append_lies _ (by rfl) _ _ _ (by rfl) B 63 i1 _ 8 20 Try.underlying73 hi1 hy0 hy1 hy2 rfl (by omega) (.slice (some ⟨G2 m, 0, none⟩) ln (C2 m)) ln _ (by rfl) (by exact (own.alloc _)) ⟨w2.heap.size, 0, none⟩ 1 1 (rec8 r0 r1 r2 r3 r4 r5 r6 r7).toList (by rfl) (by rfl) (World.news_of_block (cs := rec8 r0 r1 r2 r3 r4 r5 r6 r7) (t := 63) (fr := (0, 0)) (by exact heap_alloc_new w2 _)) (by simp [Value.oneCell']) (by omega) (by unfold maxLen; omega) (by omega) (by simp; omega) (w2.heap.size + 1) (by simp) ?_; intro gg2 cap2 w3 hown3 hgrow3 hat3 hlt3; have hfar3 := far hgrow3 (fun b hb => Below.heap_alloc _ _ _ hb); have cw := (World.cell?_of_block (w := w2) (a := ⟨gb, m, none⟩) (hfar3 gb l3 n1)).trans cl; have fw := (World.frozen?_of_block (w := w2) (a := ⟨gb, m, none⟩) (hfar3 gb l3 n1)).trans fl; have cw3 := (World.cell?_of_block (w := w2) (a := ⟨bt, 3, none⟩) (hfar3 bt l2 n2)).trans c3; have fw3 := (World.frozen?_of_block (w := w2) (a := ⟨bt, 3, none⟩) (hfar3 bt l2 n2)).trans f3))
    all_goals
      have HO := hide hown3
      have HGR := hide hgrow3
      have HA := hide hat3
      clear hown3 hgrow3 hat3 hfar3
      go_wp2_with fail
      go_ret
      obtain rfl := HL.out
      have hk9 := HK.out
      have hWW : ∀ b, b < w2.heap.size → _ := fun b hb => Below.heap_alloc (w2.drewN nq).drew (.cells (rec8 r0 r1 r2 r3 r4 r5 r6 r7) 63) b hb
      exact ⟨ret_int (by omega), m + 1, _, _, _, _, by simp only [List.length_append, List.length_cons, List.length_nil]; omega, by simp only [List.length_append, List.length_cons, List.length_nil]; omega, fun h => by omega, TI.push (m := m) HT2.out (by omega) (by omega) _ rfl hWW (by omega) HO.out HGR.out HA.out _ (by omega), HF.out.trans (Fr.pushed (m := m) HT2.out ((((Fr.refl B w2).drewN nq).drew).alloc hBE _) (by simp; omega) hWW HGR.out _ _)⟩
  · have hm' : ((m : Int) == 0) = false := beq_eq_false_iff_ne.2 (by omega)
    clear hm
    go_enter Try.func15, Try.ntmps15
    go_wp2_with fail
    have HT2 := hide (H0.out.alloc (.cells (rec8 r0 r1 r2 r3 r4 r5 r6 r7) 63))
    have HF := hide ((Fr.refl B w).alloc hB (.cells (rec8 r0 r1 r2 r3 r4 r5 r6 r7) 63))
    have hbx := heap_alloc_new w (.cells (rec8 r0 r1 r2 r3 r4 r5 r6 r7) 63)
    have hBE : B ≤ (w.alloc (.cells (rec8 r0 r1 r2 r3 r4 r5 r6 r7) 63)).heap.size := by simp; omega
    clear l2 c2 c3
    generalize w.alloc (.cells (rec8 r0 r1 r2 r3 r4 r5 r6 r7) 63) = w2 at *
    obtain ⟨gb', cb', bcs, e0, hgbB, hgb, hcb, hbs, hbc⟩ := HT2.out.rows (Nat.succ_pos m)
    cases e0
    obtain ⟨hGB, cur, hG, hcap, hsz, htk⟩ := HT2.out.row (Nat.lt_succ_self m)
    have own := HT2.out.chunk m (Nat.lt_succ_self m)
    have n1 : gb ≠ G2 m := row_apart hgb hG (by decide)
    have n2 : bt ≠ G2 m := row_apart HT2.out.tree hG (by decide)
    have n3 : gb ≠ bt := row_apart hgb HT2.out.tree (by decide)
    have l2 := lt_of_some HT2.out.tree
    have l3 := lt_of_some hgb
    have l4 := lt_of_some hG
    have lx := lt_of_some hbx
    have c2 := (cell_of_row w2 bt 2 _ _ _ HT2.out.tree).trans HT2.out.t2
    have c3 := (cell_of_row w2 bt 3 _ _ _ HT2.out.tree).trans HT2.out.t3
    have f3 := frozen_of_row 3 HT2.out.tree
    have cl := (cell_of_row w2 gb m _ _ _ hgb).trans (hbc m (Nat.lt_succ_self m))
    have fl := frozen_of_row m hgb
    have x0 : w2.cell? ⟨w.heap.size, 0, none⟩ = some (.int .u32 r0) := cell_of_row w2 w.heap.size 0 _ _ _ hbx
    have x1 : w2.cell? ⟨w.heap.size, 1, none⟩ = some (.int .u32 r1) := cell_of_row w2 w.heap.size 1 _ _ _ hbx
    have x2 : w2.cell? ⟨w.heap.size, 2, none⟩ = some (.int .u32 r2) := cell_of_row w2 w.heap.size 2 _ _ _ hbx
    have x3 : w2.cell? ⟨w.heap.size, 3, none⟩ = some (.int .u32 r3) := cell_of_row w2 w.heap.size 3 _ _ _ hbx
    have x4 : w2.cell? ⟨w.heap.size, 4, none⟩ = some (.int .u8 r4) := cell_of_row w2 w.heap.size 4 _ _ _ hbx
    have x5 : w2.cell? ⟨w.heap.size, 5, none⟩ = some (.int .u8 r5) := cell_of_row w2 w.heap.size 5 _ _ _ hbx
    have x6 : w2.cell? ⟨w.heap.size, 6, none⟩ = some (.int .u8 r6) := cell_of_row w2 w.heap.size 6 _ _ _ hbx
    have x7 : w2.cell? ⟨w.heap.size, 7, none⟩ = some (.int .u8 r7) := cell_of_row w2 w.heap.size 7 _ _ _ hbx
    have hln : (ck rs m).length ≤ 4096 := by rw [ck_len]; omega
    generalize hcl : (ck rs m).length = ln at *
    have HL := hide hcl
    unfold bval at own cl
    rw [hcl] at own cl
    rw [HK.out] at c3
    clear hcl htk hgb hG hbc hcap hsz hbs hcb hbx
    have clA : ∀ (n : Nat) (o : Obj), ((w2.drewN n).alloc o).cell? ⟨gb, m, none⟩ = some (.slice (some ⟨G2 m, 0, none⟩) ln (C2 m)) := fun n o => (World.cell?_of_block (w := w2) (a := ⟨gb, m, none⟩) (Below.heap_alloc (w2.drewN n) o gb l3)).trans cl
    obtain ⟨i1, hi1, hy0, hy1, hy2⟩ := info_parts info63
    go_quiet (fail)
    go_wp2_with fail
    go_region_law ((refine step_append_lies _ (by rfl) _ _ _ (by rfl) B 63 i1 _ 8 20 Try.underlying73 hi1 hy0 hy1 hy2 rfl (by omega) (.slice (some ⟨G2 m, 0, none⟩) ln (C2 m)) ln _ (by rfl) (by exact (own.alloc _)) ⟨w2.heap.size, 0, none⟩ 1 1 (rec8 r0 r1 r2 r3 r4 r5 r6 r7).toList (by rfl) (by rfl) (World.news_of_block (cs := rec8 r0 r1 r2 r3 r4 r5 r6 r7) (t := 63) (fr := (0, 0)) (by exact heap_alloc_new w2 _)) (by simp [Value.oneCell']) (by omega) (by unfold maxLen; omega) (by omega) (by simp; omega) (w2.heap.size + 1) (by simp) ?_; intro gg2 cap2 w3 hown3 hgrow3 hat3 hlt3; have hfar3 := far hgrow3 (fun b hb => Below.heap_alloc _ _ _ hb); have cw := (World.cell?_of_block (w := w2) (a := ⟨gb, m, none⟩) (hfar3 gb l3 n1)).trans cl; have fw := (World.frozen?_of_block (w := w2) (a := ⟨gb, m, none⟩) (hfar3 gb l3 n1)).trans fl; have cw3 := (World.cell?_of_block (w := w2) (a := ⟨bt, 3, none⟩) (hfar3 bt l2 n2)).trans c3; have fw3 := (World.frozen?_of_block (w := w2) (a := ⟨bt, 3, none⟩) (hfar3 bt l2 n2)).trans f3))
    all_goals
      have HO := hide hown3
      have HGR := hide hgrow3
      have HA := hide hat3
      clear hown3 hgrow3 hat3 hfar3
      go_wp2_with fail
      go_ret
      obtain rfl := HL.out
      have hk9 := HK.out
      have hWW : ∀ b, b < w2.heap.size → _ := fun b hb => Below.heap_alloc (w2.drewN nq).drew (.cells (rec8 r0 r1 r2 r3 r4 r5 r6 r7) 63) b hb
      exact ⟨ret_int (by omega), m + 1, _, _, _, _, by simp only [List.length_append, List.length_cons, List.length_nil]; omega, by simp only [List.length_append, List.length_cons, List.length_nil]; omega, fun h => by omega, TI.push (m := m) HT2.out (by omega) (by omega) _ rfl hWW (by omega) HO.out HGR.out HA.out _ (by omega), HF.out.trans (Fr.pushed (m := m) HT2.out ((((Fr.refl B w2).drewN nq).drew).alloc hBE _) (by simp; omega) hWW HGR.out _ _)⟩
theorem info73 : (Try.prog.info? 73).map (fun i => (i.zero, i.size, i.bytes)) = some (some (.slice none 0 0), 1, 24) := by kernel_rfl
theorem make_ex (c : Nat) (hc : c ≤ 4096) : ∃ Z : Array Value, Z.size = c * 8 ∧ ∀ w : World, (Instr.makeSlice 73 (.int .i64 0) (.int .i64 (c : Int))).run Try.prog w = .ok (.slice (some ⟨w.heap.size, 0, none⟩) 0 c) (w.alloc (.cells Z 63)) := by
  obtain ⟨i0, hi0, hz0, hz1, hz2⟩ := info_parts info63
  refine ⟨madeCells (Value.agg (rec8 0 0 0 0 0 0 0 0)).cells (c * 8), by simp [madeCells], fun w => ?_⟩
  have := run_make (P := Try.prog) w 73 63 i0 _ Try.underlying73 hi0 hz0 .i64 .i64 0 (c : Int) (by omega) (by omega) (by rw [hz2]; omega) (by omega)
  rw [hz1] at this
  simpa using this
theorem two_of_three (w : World) (X Y Z : Obj) : (((w.alloc X).alloc Y).alloc Z).heap[w.heap.size + 1]? = some Y :=
  (Below.heap_alloc ((w.alloc X).alloc Y) Z _ (by simp)).trans (two_alloc w X Y)
theorem one_of_three (w : World) (X Y Z : Obj) : (((w.alloc X).alloc Y).alloc Z).heap[w.heap.size]? = some X :=
  (Below.heap_alloc ((w.alloc X).alloc Y) Z _ (by simp; omega)).trans ((Below.heap_alloc (w.alloc X) Y _ (by simp)).trans (heap_alloc_new w X))
set_option maxRecDepth 100000 in
set_option maxHeartbeats 6400000 in
theorem add_first (B bt : Nat) (rs : List (List Value)) (tcs : Array Value) (G C : Nat → Nat) (r0 r1 r2 r3 r4 r5 r6 r7 : Int) (w : World) (hB : B ≤ w.heap.size)
    (h : TI B w bt rs 0 (.slice none 0 0) tcs G C) (hk : rs.length = 0) :
    Calls Try.prog 15 #[.pointer (some ⟨bt, 2, none⟩), .agg (rec8 r0 r1 r2 r3 r4 r5 r6 r7)] w fun e w' => e = .returned (.int .u32 rs.length) ∧ Added B w bt (rs ++ [(rec8 r0 r1 r2 r3 r4 r5 r6 r7).toList]) w' := by
  have HK := hide hk
  have H0 := hide h
  have Htr := hide h.tree
  have l2 := lt_of_some h.tree
  have c2 := (cell_of_row w bt 2 _ _ _ h.tree).trans h.t2
  have c3 := (cell_of_row w bt 3 _ _ _ h.tree).trans h.t3
  have f2 := frozen_of_row 2 h.tree
  have own := h.own
  rw [hk] at c3
  obtain ⟨Z, hZ, mk⟩ := make_ex 8 (by decide)
  have mk8 : ∀ w : World, (Instr.makeSlice 73 (.int .i64 0) (.int .i64 8)).run Try.prog w = .ok (.slice (some ⟨w.heap.size, 0, none⟩) 0 8) (w.alloc (.cells Z 63)) := mk
  clear hk h mk
  have l2a : bt < w.heap.size + 1 := by omega
  have l2b : bt < w.heap.size + 1 + 1 := by omega
  obtain ⟨i0, hi0, hz0, hz1, hz2⟩ := info_parts info73
  go_enter Try.func15, Try.ntmps15
  go_wp2_with fail
  go_region_law ((refine step_append_lies _ (by rfl) _ _ _ (by rfl) B 73 i0 _ 1 24 Try.underlying38 hi0 hz0 hz1 hz2 rfl (by omega) (.slice none 0 0) 0 _ (by rfl) (by exact (((own.alloc _).alloc _).alloc _)) ⟨w.heap.size + 1 + 1, 0, none⟩ 1 1 [.slice (some ⟨w.heap.size + 1, 0, none⟩) 0 8] (by rfl) (by rfl) (World.news_of_block (cs := #[.slice (some ⟨w.heap.size + 1, 0, none⟩) 0 8]) (t := 73) (fr := (0, 0)) (by exact three_alloc w _ _ _)) (by simp [Value.oneCell']) (by omega) (by unfold maxLen; omega) (by omega) (by simp; omega) (w.heap.size + 3) (by simp) ?_; intro gg cap' w1 hown1 hgrow hat hlt; have hfar := far_none hgrow (fun b hb => (Below.heap_alloc _ _ _ (by simp; omega)).trans ((Below.heap_alloc _ _ _ (by simp; omega)).trans (Below.heap_alloc _ _ _ hb))); have cw2 := (World.cell?_of_block (w := w) (a := ⟨bt, 2, none⟩) (hfar bt l2)).trans c2; have fw2 := (World.frozen?_of_block (w := w) (a := ⟨bt, 2, none⟩) (hfar bt l2)).trans f2))
  all_goals
    have HWW : Hid (∀ b, b < w.heap.size → _) := hide (fun b hb => (Below.heap_alloc ((w.alloc (.cells (rec8 r0 r1 r2 r3 r4 r5 r6 r7) 63)).alloc (.cells Z 63)) (.cells #[.slice (some ⟨w.heap.size + 1, 0, none⟩) 0 8] 73) b (by simp; omega)).trans ((Below.heap_alloc (w.alloc (.cells (rec8 r0 r1 r2 r3 r4 r5 r6 r7) 63)) (.cells Z 63) b (by simp; omega)).trans (Below.heap_alloc w (.cells (rec8 r0 r1 r2 r3 r4 r5 r6 r7) 63) b hb)))
    have hgr0 : (((w.alloc (.cells (rec8 r0 r1 r2 r3 r4 r5 r6 r7) 63)).alloc (.cells Z 63)).alloc (.cells #[.slice (some ⟨w.heap.size + 1, 0, none⟩) 0 8] 73)).grownBy w1 (Value.slice none 0 0).ownBlock := ⟨hgrow.os, hgrow.tape, hgrow.output, hgrow.size, hgrow.block⟩
    have HT2 := hide (TI.grow H0.out (by have := HK.out; omega) HWW.out (two_of_three w _ (.cells Z 63) _) (by omega) hB hZ (by decide) hown1 hgr0)
    have HF := hide ((((((Fr.refl B w).alloc hB (.cells (rec8 r0 r1 r2 r3 r4 r5 r6 r7) 63)).alloc (by simp; omega) (.cells Z 63)).alloc (by simp; omega) (.cells #[.slice (some ⟨w.heap.size + 1, 0, none⟩) 0 8] 73)).grown hgr0 (by simp; omega) (fun g hg => by cases hg)).set (g := bt) (i := 2) (t := 48) (cs := tcs) ((hfar bt l2).trans Htr.out) H0.out.hB (.inl rfl) (.slice (some ⟨gg, 0, none⟩) (0 + 1) cap'))
    have hbx : (w1.setCell ⟨bt, 2, none⟩ (.slice (some ⟨gg, 0, none⟩) (0 + 1) cap')).heap[w.heap.size]? = some (.cells (rec8 r0 r1 r2 r3 r4 r5 r6 r7) 63 (0, 0)) := by
      rw [heap_setCell_other _ _ _ _ (Nat.ne_of_gt l2), hgr0.block _ (by simp; omega) (fun x => by cases x)]
      exact one_of_three w _ _ _
    have hBE : B ≤ (w1.setCell ⟨bt, 2, none⟩ (.slice (some ⟨gg, 0, none⟩) (0 + 1) cap')).heap.size := Nat.le_trans hB HF.out.below.size
    clear hown1 hgrow hgr0 hat hfar hlt cw2 fw2 c2 f2 own l2a l2b l2 HWW
    go_wp2_with fail
    generalize w1.setCell ⟨bt, 2, none⟩ (.slice (some ⟨gg, 0, none⟩) (0 + 1) cap') = w2 at *
    generalize tcs.setIfInBounds 2 (.slice (some ⟨gg, 0, none⟩) (0 + 1) cap') = tcs2 at *
    generalize (fun j => if j = 0 then w.heap.size + 1 else G j) = G2 at *
    generalize (fun j => if j = 0 then 8 else C j) = C2 at *
    generalize gg = gb at *
    generalize cap' = cb at *
    obtain ⟨gb', cb', bcs, e0, hgbB, hgb, hcb, hbs, hbc⟩ := HT2.out.rows (Nat.succ_pos 0)
    cases e0
    obtain ⟨hGB, cur, hG, hcap, hsz, htk⟩ := HT2.out.row (Nat.lt_succ_self 0)
    have own := HT2.out.chunk 0 (Nat.lt_succ_self 0)
    have n1 : gb ≠ G2 0 := row_apart hgb hG (by decide)
    have n2 : bt ≠ G2 0 := row_apart HT2.out.tree hG (by decide)
    have n3 : gb ≠ bt := row_apart hgb HT2.out.tree (by decide)
    have l2 := lt_of_some HT2.out.tree
    have l3 := lt_of_some hgb
    have l4 := lt_of_some hG
    have lx := lt_of_some hbx
    have c2 := (cell_of_row w2 bt 2 _ _ _ HT2.out.tree).trans HT2.out.t2
    have c3 := (cell_of_row w2 bt 3 _ _ _ HT2.out.tree).trans HT2.out.t3
    have f3 := frozen_of_row 3 HT2.out.tree
    have cl := (cell_of_row w2 gb 0 _ _ _ hgb).trans (hbc 0 (Nat.lt_succ_self 0))
    have fl := frozen_of_row 0 hgb
    have x0 : w2.cell? ⟨w.heap.size, 0, none⟩ = some (.int .u32 r0) := cell_of_row w2 w.heap.size 0 _ _ _ hbx
    have x1 : w2.cell? ⟨w.heap.size, 1, none⟩ = some (.int .u32 r1) := cell_of_row w2 w.heap.size 1 _ _ _ hbx
    have x2 : w2.cell? ⟨w.heap.size, 2, none⟩ = some (.int .u32 r2) := cell_of_row w2 w.heap.size 2 _ _ _ hbx
    have x3 : w2.cell? ⟨w.heap.size, 3, none⟩ = some (.int .u32 r3) := cell_of_row w2 w.heap.size 3 _ _ _ hbx
    have x4 : w2.cell? ⟨w.heap.size, 4, none⟩ = some (.int .u8 r4) := cell_of_row w2 w.heap.size 4 _ _ _ hbx
    have x5 : w2.cell? ⟨w.heap.size, 5, none⟩ = some (.int .u8 r5) := cell_of_row w2 w.heap.size 5 _ _ _ hbx
    have x6 : w2.cell? ⟨w.heap.size, 6, none⟩ = some (.int .u8 r6) := cell_of_row w2 w.heap.size 6 _ _ _ hbx
    have x7 : w2.cell? ⟨w.heap.size, 7, none⟩ = some (.int .u8 r7) := cell_of_row w2 w.heap.size 7 _ _ _ hbx
    have hln : (ck rs 0).length ≤ 4096 := by rw [ck_len]; omega
    generalize hcl : (ck rs 0).length = ln at *
    have HL := hide hcl
    unfold bval at own cl
    rw [hcl] at own cl
    rw [HK.out] at c3
    clear hcl htk hgb hG hbc hcap hsz hbs hcb hbx
    have clA : ∀ (n : Nat) (o : Obj), ((w2.drewN n).alloc o).cell? ⟨gb, 0, none⟩ = some (.slice (some ⟨G2 0, 0, none⟩) ln (C2 0)) := fun n o => (World.cell?_of_block (w := w2) (a := ⟨gb, 0, none⟩) (Below.heap_alloc (w2.drewN n) o gb l3)).trans cl
    obtain ⟨i1, hi1, hy0, hy1, hy2⟩ := info_parts info63
    go_quiet (fail)
    go_wp2_with fail
    go_region_law ((refine step_append_lies _ (by rfl) _ _ _ (by rfl) B 63 i1 _ 8 20 Try.underlying73 hi1 hy0 hy1 hy2 rfl (by omega) (.slice (some ⟨G2 0, 0, none⟩) ln (C2 0)) ln _ (by rfl) (by exact (own.alloc _)) ⟨w2.heap.size, 0, none⟩ 1 1 (rec8 r0 r1 r2 r3 r4 r5 r6 r7).toList (by rfl) (by rfl) (World.news_of_block (cs := rec8 r0 r1 r2 r3 r4 r5 r6 r7) (t := 63) (fr := (0, 0)) (by exact heap_alloc_new w2 _)) (by simp [Value.oneCell']) (by omega) (by unfold maxLen; omega) (by omega) (by simp; omega) (w2.heap.size + 1) (by simp) ?_; intro gg2 cap2 w3 hown3 hgrow3 hat3 hlt3; have hfar3 := far hgrow3 (fun b hb => Below.heap_alloc _ _ _ hb); have cw := (World.cell?_of_block (w := w2) (a := ⟨gb, 0, none⟩) (hfar3 gb l3 n1)).trans cl; have fw := (World.frozen?_of_block (w := w2) (a := ⟨gb, 0, none⟩) (hfar3 gb l3 n1)).trans fl; have cw3 := (World.cell?_of_block (w := w2) (a := ⟨bt, 3, none⟩) (hfar3 bt l2 n2)).trans c3; have fw3 := (World.frozen?_of_block (w := w2) (a := ⟨bt, 3, none⟩) (hfar3 bt l2 n2)).trans f3))
    all_goals
      have HO := hide hown3
      have HGR := hide hgrow3
      have HA := hide hat3
      clear hown3 hgrow3 hat3 hfar3
      go_wp2_with fail
      go_ret
      obtain rfl := HL.out
      have hk9 := HK.out
      have hWW : ∀ b, b < w2.heap.size → _ := fun b hb => Below.heap_alloc (w2.drewN nq).drew (.cells (rec8 r0 r1 r2 r3 r4 r5 r6 r7) 63) b hb
      exact ⟨ret_int (by omega), 1, _, _, _, _, by simp only [List.length_append, List.length_cons, List.length_nil]; omega, by simp only [List.length_append, List.length_cons, List.length_nil]; omega, fun h => by omega, TI.push (m := 0) HT2.out (by omega) (by omega) _ rfl hWW (by omega) HO.out HGR.out HA.out _ (by omega), HF.out.trans (Fr.pushed (m := 0) HT2.out ((((Fr.refl B w2).drewN nq).drew).alloc hBE _) (by simp; omega) hWW HGR.out _ _)⟩
set_option maxRecDepth 100000 in
set_option maxHeartbeats 6400000 in
theorem add_next (B bt gb0 m cb0 k : Nat) (rs : List (List Value)) (tcs : Array Value) (G C : Nat → Nat) (r0 r1 r2 r3 r4 r5 r6 r7 : Int) (w : World) (hB : B ≤ w.heap.size)
    (h : TI B w bt rs m (.slice (some ⟨gb0, 0, none⟩) m cb0) tcs G C) (hk : rs.length = k) (hm1 : k = 4096 * m) (hm0 : 1 ≤ m) (hm3 : m ≤ 3) :
    Calls Try.prog 15 #[.pointer (some ⟨bt, 2, none⟩), .agg (rec8 r0 r1 r2 r3 r4 r5 r6 r7)] w fun e w' => e = .returned (.int .u32 rs.length) ∧ Added B w bt (rs ++ [(rec8 r0 r1 r2 r3 r4 r5 r6 r7).toList]) w' := by
  have HK := hide hk
  have H0 := hide h
  have Htr := hide h.tree
  obtain ⟨gb', cb', bcs0, e0, hgbB0, hgb0, _, _, _⟩ := h.rows (by omega)
  cases e0
  have Hgb0 := hide hgb0
  have HgB := hide hgbB0
  have nbt : bt ≠ gb0 := row_apart h.tree hgb0 (by decide)
  have l2 := lt_of_some h.tree
  have l20 := lt_of_some hgb0
  have c2 := (cell_of_row w bt 2 _ _ _ h.tree).trans h.t2
  have c3 := (cell_of_row w bt 3 _ _ _ h.tree).trans h.t3
  have f2 := frozen_of_row 2 h.tree
  have own := h.own
  rw [hk] at c3
  obtain ⟨Z, hZ, mk⟩ := make_ex 4096 (by decide)
  have mk8 : ∀ w : World, (Instr.makeSlice 73 (.int .i64 0) (.int .i64 4096)).run Try.prog w = .ok (.slice (some ⟨w.heap.size, 0, none⟩) 0 4096) (w.alloc (.cells Z 63)) := mk
  clear hk h mk hgb0
  have l2a : bt < w.heap.size + 1 := by omega
  have l2b : bt < w.heap.size + 1 + 1 := by omega
  have d1 : (k : Int) / 4096 = m := by omega
  have d2 : ((m : Int) == 0) = false := beq_eq_false_iff_ne.2 (by omega)
  have d3 : ((m : Int) == (m : Int)) = true := beq_iff_eq.2 rfl
  have d4 : (0 : Int) ≤ m := by omega
  have d5 : (m : Int) ≤ 3 := by omega
  obtain ⟨i0, hi0, hz0, hz1, hz2⟩ := info_parts info73
  go_enter Try.func15, Try.ntmps15
  go_wp2_with fail
  go_region_law ((refine step_append_lies _ (by rfl) _ _ _ (by rfl) B 73 i0 _ 1 24 Try.underlying38 hi0 hz0 hz1 hz2 rfl (by omega) (.slice (some ⟨gb0, 0, none⟩) m cb0) m _ (by rfl) (by exact (((own.alloc _).alloc _).alloc _)) ⟨w.heap.size + 1 + 1, 0, none⟩ 1 1 [.slice (some ⟨w.heap.size + 1, 0, none⟩) 0 4096] (by rfl) (by rfl) (World.news_of_block (cs := #[.slice (some ⟨w.heap.size + 1, 0, none⟩) 0 4096]) (t := 73) (fr := (0, 0)) (by exact three_alloc w _ _ _)) (by simp [Value.oneCell']) (by omega) (by unfold maxLen; omega) (by omega) (by simp; omega) (w.heap.size + 3) (by simp) ?_; intro gg cap' w1 hown1 hgrow hat hlt; have hfar := far hgrow (fun b hb => (Below.heap_alloc _ _ _ (by simp; omega)).trans ((Below.heap_alloc _ _ _ (by simp; omega)).trans (Below.heap_alloc _ _ _ hb))); have cw2 := (World.cell?_of_block (w := w) (a := ⟨bt, 2, none⟩) (hfar bt l2 nbt)).trans c2; have fw2 := (World.frozen?_of_block (w := w) (a := ⟨bt, 2, none⟩) (hfar bt l2 nbt)).trans f2))
  all_goals
    have HWW : Hid (∀ b, b < w.heap.size → _) := hide (fun b hb => (Below.heap_alloc ((w.alloc (.cells (rec8 r0 r1 r2 r3 r4 r5 r6 r7) 63)).alloc (.cells Z 63)) (.cells #[.slice (some ⟨w.heap.size + 1, 0, none⟩) 0 4096] 73) b (by simp; omega)).trans ((Below.heap_alloc (w.alloc (.cells (rec8 r0 r1 r2 r3 r4 r5 r6 r7) 63)) (.cells Z 63) b (by simp; omega)).trans (Below.heap_alloc w (.cells (rec8 r0 r1 r2 r3 r4 r5 r6 r7) 63) b hb)))
    have hgr0 : (((w.alloc (.cells (rec8 r0 r1 r2 r3 r4 r5 r6 r7) 63)).alloc (.cells Z 63)).alloc (.cells #[.slice (some ⟨w.heap.size + 1, 0, none⟩) 0 4096] 73)).grownBy w1 (Value.slice (some ⟨gb0, 0, none⟩) m cb0).ownBlock := ⟨hgrow.os, hgrow.tape, hgrow.output, hgrow.size, hgrow.block⟩
    have HT2 := hide (TI.grow H0.out (by have := HK.out; omega) HWW.out (two_of_three w _ (.cells Z 63) _) (by omega) hB hZ (by decide) hown1 hgr0)
    have HF := hide ((((((Fr.refl B w).alloc hB (.cells (rec8 r0 r1 r2 r3 r4 r5 r6 r7) 63)).alloc (by simp; omega) (.cells Z 63)).alloc (by simp; omega) (.cells #[.slice (some ⟨w.heap.size + 1, 0, none⟩) 0 4096] 73)).grown hgr0 (by simp; omega) (fun g hg => by cases hg; exact ⟨HgB.out, _, 73, (HWW.out _ (lt_of_some Hgb0.out)).trans Hgb0.out, .inr (.inl rfl)⟩)).set (g := bt) (i := 2) (t := 48) (cs := tcs) ((hfar bt l2 nbt).trans Htr.out) H0.out.hB (.inl rfl) (.slice (some ⟨gg, 0, none⟩) (m + 1) cap'))
    have hbx : (w1.setCell ⟨bt, 2, none⟩ (.slice (some ⟨gg, 0, none⟩) (m + 1) cap')).heap[w.heap.size]? = some (.cells (rec8 r0 r1 r2 r3 r4 r5 r6 r7) 63 (0, 0)) := by
      rw [heap_setCell_other _ _ _ _ (Nat.ne_of_gt l2), hgr0.block _ (by simp; omega) (fun x => absurd (Option.some.inj (show some w.heap.size = some gb0 from x)) (by omega))]
      exact one_of_three w _ _ _
    have hBE : B ≤ (w1.setCell ⟨bt, 2, none⟩ (.slice (some ⟨gg, 0, none⟩) (m + 1) cap')).heap.size := Nat.le_trans hB HF.out.below.size
    clear hown1 hgrow hgr0 hat hfar hlt cw2 fw2 c2 f2 own l2a l2b l2 HWW
    go_wp2_with fail
    generalize w1.setCell ⟨bt, 2, none⟩ (.slice (some ⟨gg, 0, none⟩) (m + 1) cap') = w2 at *
    generalize tcs.setIfInBounds 2 (.slice (some ⟨gg, 0, none⟩) (m + 1) cap') = tcs2 at *
    generalize (fun j => if j = m then w.heap.size + 1 else G j) = G2 at *
    generalize (fun j => if j = m then 4096 else C j) = C2 at *
    generalize gg = gb at *
    generalize cap' = cb at *
    obtain ⟨gb', cb', bcs, e0, hgbB, hgb, hcb, hbs, hbc⟩ := HT2.out.rows (Nat.succ_pos m)
    cases e0
    obtain ⟨hGB, cur, hG, hcap, hsz, htk⟩ := HT2.out.row (Nat.lt_succ_self m)
    have own := HT2.out.chunk m (Nat.lt_succ_self m)
    have n1 : gb ≠ G2 m := row_apart hgb hG (by decide)
    have n2 : bt ≠ G2 m := row_apart HT2.out.tree hG (by decide)
    have n3 : gb ≠ bt := row_apart hgb HT2.out.tree (by decide)
    have l2 := lt_of_some HT2.out.tree
    have l3 := lt_of_some hgb
    have l4 := lt_of_some hG
    have lx := lt_of_some hbx
    have c2 := (cell_of_row w2 bt 2 _ _ _ HT2.out.tree).trans HT2.out.t2
    have c3 := (cell_of_row w2 bt 3 _ _ _ HT2.out.tree).trans HT2.out.t3
    have f3 := frozen_of_row 3 HT2.out.tree
    have cl := (cell_of_row w2 gb m _ _ _ hgb).trans (hbc m (Nat.lt_succ_self m))
    have fl := frozen_of_row m hgb
    have x0 : w2.cell? ⟨w.heap.size, 0, none⟩ = some (.int .u32 r0) := cell_of_row w2 w.heap.size 0 _ _ _ hbx
    have x1 : w2.cell? ⟨w.heap.size, 1, none⟩ = some (.int .u32 r1) := cell_of_row w2 w.heap.size 1 _ _ _ hbx
    have x2 : w2.cell? ⟨w.heap.size, 2, none⟩ = some (.int .u32 r2) := cell_of_row w2 w.heap.size 2 _ _ _ hbx
    have x3 : w2.cell? ⟨w.heap.size, 3, none⟩ = some (.int .u32 r3) := cell_of_row w2 w.heap.size 3 _ _ _ hbx
    have x4 : w2.cell? ⟨w.heap.size, 4, none⟩ = some (.int .u8 r4) := cell_of_row w2 w.heap.size 4 _ _ _ hbx
    have x5 : w2.cell? ⟨w.heap.size, 5, none⟩ = some (.int .u8 r5) := cell_of_row w2 w.heap.size 5 _ _ _ hbx
    have x6 : w2.cell? ⟨w.heap.size, 6, none⟩ = some (.int .u8 r6) := cell_of_row w2 w.heap.size 6 _ _ _ hbx
    have x7 : w2.cell? ⟨w.heap.size, 7, none⟩ = some (.int .u8 r7) := cell_of_row w2 w.heap.size 7 _ _ _ hbx
    have hln : (ck rs m).length ≤ 4096 := by rw [ck_len]; omega
    generalize hcl : (ck rs m).length = ln at *
    have HL := hide hcl
    unfold bval at own cl
    rw [hcl] at own cl
    rw [HK.out] at c3
    clear hcl htk hgb hG hbc hcap hsz hbs hcb hbx
    have clA : ∀ (n : Nat) (o : Obj), ((w2.drewN n).alloc o).cell? ⟨gb, m, none⟩ = some (.slice (some ⟨G2 m, 0, none⟩) ln (C2 m)) := fun n o => (World.cell?_of_block (w := w2) (a := ⟨gb, m, none⟩) (Below.heap_alloc (w2.drewN n) o gb l3)).trans cl
    obtain ⟨i1, hi1, hy0, hy1, hy2⟩ := info_parts info63
    go_quiet (fail)
    go_wp2_with fail
    go_region_law ((refine step_append_lies _ (by rfl) _ _ _ (by rfl) B 63 i1 _ 8 20 Try.underlying73 hi1 hy0 hy1 hy2 rfl (by omega) (.slice (some ⟨G2 m, 0, none⟩) ln (C2 m)) ln _ (by rfl) (by exact (own.alloc _)) ⟨w2.heap.size, 0, none⟩ 1 1 (rec8 r0 r1 r2 r3 r4 r5 r6 r7).toList (by rfl) (by rfl) (World.news_of_block (cs := rec8 r0 r1 r2 r3 r4 r5 r6 r7) (t := 63) (fr := (0, 0)) (by exact heap_alloc_new w2 _)) (by simp [Value.oneCell']) (by omega) (by unfold maxLen; omega) (by omega) (by simp; omega) (w2.heap.size + 1) (by simp) ?_; intro gg2 cap2 w3 hown3 hgrow3 hat3 hlt3; have hfar3 := far hgrow3 (fun b hb => Below.heap_alloc _ _ _ hb); have cw := (World.cell?_of_block (w := w2) (a := ⟨gb, m, none⟩) (hfar3 gb l3 n1)).trans cl; have fw := (World.frozen?_of_block (w := w2) (a := ⟨gb, m, none⟩) (hfar3 gb l3 n1)).trans fl; have cw3 := (World.cell?_of_block (w := w2) (a := ⟨bt, 3, none⟩) (hfar3 bt l2 n2)).trans c3; have fw3 := (World.frozen?_of_block (w := w2) (a := ⟨bt, 3, none⟩) (hfar3 bt l2 n2)).trans f3))
    all_goals
      have HO := hide hown3
      have HGR := hide hgrow3
      have HA := hide hat3
      clear hown3 hgrow3 hat3 hfar3
      go_wp2_with fail
      go_ret
      obtain rfl := HL.out
      have hk9 := HK.out
      have hWW : ∀ b, b < w2.heap.size → _ := fun b hb => Below.heap_alloc (w2.drewN nq).drew (.cells (rec8 r0 r1 r2 r3 r4 r5 r6 r7) 63) b hb
      exact ⟨ret_int (by omega), m + 1, _, _, _, _, by simp only [List.length_append, List.length_cons, List.length_nil]; omega, by simp only [List.length_append, List.length_cons, List.length_nil]; omega, fun h => by omega, TI.push (m := m) HT2.out (by omega) (by omega) _ rfl hWW (by omega) HO.out HGR.out HA.out _ (by omega), HF.out.trans (Fr.pushed (m := m) HT2.out ((((Fr.refl B w2).drewN nq).drew).alloc hBE _) (by simp; omega) hWW HGR.out _ _)⟩
/-- chunks.add, in every state -/
theorem add15 (B bt : Nat) (rs : List (List Value)) (nb : Nat) (vb : Value) (tcs : Array Value) (G C : Nat → Nat) (r0 r1 r2 r3 r4 r5 r6 r7 : Int) (w : World) (hB : B ≤ w.heap.size)
    (hn1 : nb * 4096 < rs.length + 4096) (hn2 : rs.length ≤ nb * 4096) (hv : nb = 0 → vb = .slice none 0 0) (h : TI B w bt rs nb vb tcs G C) (hk : rs.length < 16384) :
    Calls Try.prog 15 #[.pointer (some ⟨bt, 2, none⟩), .agg (rec8 r0 r1 r2 r3 r4 r5 r6 r7)] w fun e w' => e = .returned (.int .u32 rs.length) ∧ Added B w bt (rs ++ [(rec8 r0 r1 r2 r3 r4 r5 r6 r7).toList]) w' := by
  by_cases h0 : nb = 0
  · subst h0
    obtain rfl := hv rfl
    exact add_first B bt rs tcs G C r0 r1 r2 r3 r4 r5 r6 r7 w hB h (by omega)
  · obtain ⟨gb, cb, _, rfl, _⟩ := h.rows (by omega)
    by_cases h1 : rs.length = 4096 * nb
    · exact add_next B bt gb nb cb rs.length rs tcs G C r0 r1 r2 r3 r4 r5 r6 r7 w hB h rfl h1 (by omega) (by omega)
    · obtain ⟨m, rfl⟩ : ∃ m, nb = m + 1 := ⟨nb - 1, by omega⟩
      exact add_room B bt gb m cb rs.length rs tcs G C r0 r1 r2 r3 r4 r5 r6 r7 w hB h rfl hk (by omega) (by omega) (by omega)
end Go.Proofs.Qxb6609232a.T
