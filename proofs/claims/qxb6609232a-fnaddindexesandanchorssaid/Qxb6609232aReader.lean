import Derived.Test.Qxb6609232aAdd
import Derived.Deep.RegionWith
import Derived.Laws.BitsAllLaws
import Derived.Maps.OwnSet
namespace Go.Proofs.Qxb6609232a.T
open Go.RowKit
set_option linter.unusedVariables false
attribute [local go_sem ↓] Go.wp_at_zero Go.wp_at_succ
theorem and4095 (i : Nat) (h : i < 4294967296) : bits .and .u32 (i : Int) 4095 = ((i % 4096 : Nat) : Int) := by
  have := u32_and_nat i 4095 h (by decide)
  rw [show (4095 : Nat) = 2 ^ 12 - 1 from rfl, Nat.and_two_pow_sub_one_eq_mod] at this
  exact this
set_option maxHeartbeats 1000000 in
theorem at12 (B bt i : Nat) (rs : List (List Value)) (nb : Nat) (vb : Value) (tcs : Array Value) (G C : Nat → Nat) (w : World)
    (hn1 : nb * 4096 < rs.length + 4096) (hn2 : rs.length ≤ nb * 4096) (h : TI B w bt rs nb vb tcs G C) (hk : rs.length ≤ 16384) (hi : i < rs.length) :
    Calls Try.prog 12 #[.pointer (some ⟨bt, 2, none⟩), .int .u32 i] w fun e w' => e = .returned (.pointer (some ⟨G (i / 4096), (i % 4096) * 8, none⟩)) ∧ w' = w := by
  obtain ⟨gb, cb, bcs, rfl, hgbB, hgb, hcb, hbs, hbc⟩ := h.rows (by omega)
  have c2 := (cell_of_row w bt 2 _ _ _ h.tree).trans h.t2
  have cl := (cell_of_row w gb (i / 4096) _ _ _ hgb).trans (hbc (i / 4096) (by omega))
  unfold bval at cl
  have hl : i % 4096 < (ck rs (i / 4096)).length := by rw [ck_len]; omega
  have e1 : ((i : Int) / 4096) = ((i / 4096 : Nat) : Int) := by omega
  have e2 : ((i / 4096 : Nat) : Int) < nb := by omega
  have e4 := and4095 i (by omega)
  have e5 : ((i % 4096 : Nat) : Int) < (ck rs (i / 4096)).length := by omega
  generalize (ck rs (i / 4096)).length = ln at *
  generalize i / 4096 = q at *
  generalize i % 4096 = r at *
  have e3 : (0 : Int) ≤ q := by omega
  have e6 : (0 : Int) ≤ r := by omega
  clear h hbc hgb
  go_enter Try.func12, Try.ntmps12
  go_wp2
  go_ret
  exact ⟨rfl, rfl⟩
/-! ### tree.add -/
theorem TI.drew {B : Nat} {w : World} {bt : Nat} {rs : List (List Value)} {nb : Nat} {vb : Value} {tcs : Array Value} {G C : Nat → Nat} (h : TI B w bt rs nb vb tcs G C) : TI B w.drew bt rs nb vb tcs G C :=
  h.keep fun _ _ => rfl
theorem TI.setOther {B : Nat} {w : World} {bt : Nat} {rs : List (List Value)} {nb : Nat} {vb : Value} {tcs : Array Value} {G C : Nat → Nat} (h : TI B w bt rs nb vb tcs G C) {g i : Nat} {cs : Array Value} {t : TypeId} {fr : Nat × Nat}
    (hg : w.heap[g]? = some (.cells cs t fr)) (h1 : t ≠ 48) (h2 : t ≠ 73) (h3 : t ≠ 63) (v : Value) : TI B (w.setCell ⟨g, i, none⟩ v) bt rs nb vb tcs G C := by
  have hset : ∀ b, b ≠ g → (w.setCell ⟨g, i, none⟩ v).heap[b]? = w.heap[b]? := fun b hb => heap_setCell_other _ _ _ _ hb
  refine ⟨h.hB, (hset bt (row_apart h.tree hg (Ne.symm h1))).trans h.tree, h.sz, h.t2, h.t3, row_keep h.own (fun b hb => hset b ?_), fun j hj => row_keep (h.chunk j hj) (fun b hb => hset b ?_), h.inj, h.wid⟩
  · obtain ⟨_, cs', e⟩ := row_block h.own hb
    exact row_apart e hg (Ne.symm h2)
  · obtain ⟨_, cs', e⟩ := row_block (h.chunk j hj) hb
    exact row_apart e hg (Ne.symm h3)
theorem Fr.setNew {B : Nat} {a w : World} (h : Fr B a w) {g i : Nat} (hB : B ≤ g) (hg : a.heap.size ≤ g) (v : Value) : Fr B a (w.setCell ⟨g, i, none⟩ v) := by
  have hset : ∀ b, b ≠ g → (w.setCell ⟨g, i, none⟩ v).heap[b]? = w.heap[b]? := fun b hb => heap_setCell_other _ _ _ _ hb
  refine ⟨h.below.setCell hB v, fun b cs t fr e h1 h2 h3 => ?_, fun b es c e => ?_⟩
  · rw [hset b (fun x => by have := lt_of_some e; omega)]; exact h.keep b cs t fr e h1 h2 h3
  · rw [hset b (fun x => by have := lt_of_some e; omega)]; exact h.keepm b es c e
theorem node_kept (w : World) (X : Obj) (c : Array Value) {B bt : Nat} {rs : List (List Value)} {w1 : World} (h : Added B ((w.alloc X).alloc (.cells c 69)).drew bt rs w1) : w1.heap[w.heap.size + 1]? = some (.cells c 69 (0, 0)) := by
  obtain ⟨_, _, _, _, _, _, _, _, _, hF⟩ := h
  exact hF.keep _ _ _ _ (two_alloc w X (.cells c 69)) (by decide) (by decide) (by decide)
set_option maxRecDepth 100000 in
set_option maxHeartbeats 3200000 in
theorem add13 (B bt : Nat) (rs : List (List Value)) (nb : Nat) (vb : Value) (tcs : Array Value) (G C : Nat → Nat) (r0 r1 r2 r3 r4 r5 r6 r7 : Int) (w : World) (hB : B ≤ w.heap.size)
    (hn1 : nb * 4096 < rs.length + 4096) (hn2 : rs.length ≤ nb * 4096) (hv : nb = 0 → vb = .slice none 0 0) (h : TI B w bt rs nb vb tcs G C) (hk : rs.length < 16384) :
    Calls Try.prog 13 #[.pointer (some ⟨bt, 0, none⟩), .agg (rec8 r0 r1 r2 r3 r4 r5 r6 r7)] w fun e w' => e = .returned (.agg #[.pointer (some ⟨bt, 0, none⟩), .int .u32 rs.length]) ∧ Added B w bt (rs ++ [(rec8 r0 r1 r2 r3 r4 r5 r6 r7).toList]) w' := by
  have HT := hide h
  have Hv := hide hv
  clear h hv
  go_enter Try.func13, Try.ntmps13
  go_wp2_with fail
  go_region_with (go_at_call 15; refine (add15 B bt rs nb vb tcs G C r0 r1 r2 r3 r4 r5 r6 r7 _ (by simp; omega) hn1 hn2 Hv.out ((HT.out.alloc _).alloc _).drew hk).mono ?_; rintro e w1 ⟨rfl, hadd⟩; have HA := hide hadd; have hb69 := node_kept w _ _ hadd; have x0 := cell_of_row w1 (w.heap.size + 1) 0 _ _ _ hb69; have x1 := cell_of_row w1 (w.heap.size + 1) 1 _ _ _ hb69; have y0 := frozen_of_row 0 hb69; have y1 := frozen_of_row 1 hb69; have HB9 := hide hb69; clear hadd hb69)
  all_goals
    go_wp2_with fail
    refine bodyPost_ret (v := .agg #[.pointer (some ⟨bt, 0, none⟩), .int .u32 rs.length]) (by simp [results, Try.results13, go_sem, x0, x1]) rfl ⟨rfl, ?_⟩
    obtain ⟨nb', vb', tcs', G', C', a1, a2, a3, hT, hF⟩ := HA.out
    have h9 := HB9.out
    exact ⟨nb', vb', tcs', G', C', a1, a2, a3, (hT.setOther h9 (by decide) (by decide) (by decide) _).setOther (heap_setCell_same _ _ _ _ _ _ h9) (by decide) (by decide) (by decide) _,
      (((((Fr.refl B w).alloc hB _).alloc (by simp; omega) _).drew.trans hF).setNew (by omega) (by omega) _).setNew (by omega) (by omega) _⟩
end Go.Proofs.Qxb6609232a.T
