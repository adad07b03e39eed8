import Derived.WalkKit
import Derived.ProofKit
import Derived.Deep.AppendLies
import Derived.Laws.Rows
import Derived.Deep.Draws
/-
  The tree of records as it lies in memory: 'TI'; what else of memory stays: 'Fr'. No Go text in sight.
-/
namespace Go.Proofs.Qxb6609232a.T
open Go.RowKit
set_option linter.unusedVariables false
theorem hide {p : Prop} (h : p) : Hid p := h
theorem ret_int {k : IntKind} {a b : Int} (h : a = b) : Ending.returned (.int k a) = .returned (.int k b) := by rw [h]
theorem ret_bool {a b : Bool} (h : a = b) : Ending.returned (.bool a) = .returned (.bool b) := by rw [h]
theorem drewN_below {B : Nat} {w w' : World} (h : Below B w w') (n : Nat) : Below B w (w'.drewN n) := ⟨h.os, h.tape, h.output, h.size, h.block⟩
theorem frozen_of_row {w : World} {g : Nat} {cs : Array Value} {t : TypeId} (j : Nat) (hg : w.heap[g]? = some (.cells cs t (0, 0))) : w.frozen? ⟨g, j, none⟩ = false := by
  simp [World.frozen?, hg]

/-- the memory that is not the tree's stays as it was -/
structure Fr (B : Nat) (w w' : World) : Prop where
  below : Below B w w'
  keep : ∀ (b : Nat) (cs : Array Value) (t : TypeId) (fr : Nat × Nat), w.heap[b]? = some (Obj.cells cs t fr) → t ≠ 48 → t ≠ 73 → t ≠ 63 → w'.heap[b]? = some (Obj.cells cs t fr)
  keepm : ∀ (b : Nat) (es : Array MapEntry) (c : Nat), w.heap[b]? = some (Obj.map es c) → w'.heap[b]? = some (Obj.map es c)
theorem Fr.refl (B : Nat) (w : World) : Fr B w w := ⟨Below.refl _ _, fun _ _ _ _ h _ _ _ => h, fun _ _ _ h => h⟩
theorem Fr.trans {B : Nat} {a b c : World} (h : Fr B a b) (k : Fr B b c) : Fr B a c :=
  ⟨h.below.trans k.below, fun x cs t fr e h1 h2 h3 => k.keep x cs t fr (h.keep x cs t fr e h1 h2 h3) h1 h2 h3, fun x es c e => k.keepm x es c (h.keepm x es c e)⟩
theorem lt_of_some {w : World} {b : Nat} {o : Obj} (h : w.heap[b]? = some o) : b < w.heap.size := (Array.getElem?_eq_some_iff.1 h).1
theorem Fr.of_all {B : Nat} {w w' : World} (hB : Below B w w') (h : ∀ b, b < w.heap.size → w'.heap[b]? = w.heap[b]?) : Fr B w w' :=
  ⟨hB, fun b _ _ _ e _ _ _ => (h b (lt_of_some e)).trans e, fun b _ _ e => (h b (lt_of_some e)).trans e⟩
theorem Fr.drewN {B : Nat} {a w : World} (h : Fr B a w) (n : Nat) : Fr B a (w.drewN n) := ⟨drewN_below h.below n, h.keep, h.keepm⟩
theorem Fr.drew {B : Nat} {a w : World} (h : Fr B a w) : Fr B a w.drew := ⟨h.below.drew, h.keep, h.keepm⟩
theorem Fr.alloc {B : Nat} {a w : World} (h : Fr B a w) (hB : B ≤ w.heap.size) (o : Obj) : Fr B a (w.alloc o) :=
  h.trans (Fr.of_all ((Below.refl _ _).alloc hB o) fun b hb => Below.heap_alloc _ _ _ hb)
/-- a store into a block of the tree's -/
theorem Fr.set {B : Nat} {a w : World} (h : Fr B a w) {g i : Nat} {cs : Array Value} {t : TypeId} (hg : w.heap[g]? = some (.cells cs t (0, 0))) (hB : B ≤ g) (ht : t = 48 ∨ t = 73 ∨ t = 63) (v : Value) : Fr B a (w.setCell ⟨g, i, none⟩ v) := by
  refine h.trans ⟨(Below.refl _ _).setCell hB v, fun b c t' fr e h1 h2 h3 => ?_, fun b es c e => ?_⟩
  · rw [heap_setCell_other _ _ _ _ (fun x : b = g => by subst x; rw [hg] at e; cases e; rcases ht with rfl | rfl | rfl <;> first | exact h1 rfl | exact h2 rfl | exact h3 rfl)]; exact e
  · rw [heap_setCell_other _ _ _ _ (fun x : b = g => by subst x; rw [hg] at e; cases e)]; exact e
/-- behind an append to a row of the tree's -/
theorem Fr.grown {B : Nat} {a w w' : World} (h : Fr B a w) {row : Option Nat} (hg : w.grownBy w' row) (hB : B ≤ w.heap.size)
    (hrow : ∀ g, row = some g → B ≤ g ∧ ∃ cs t, w.heap[g]? = some (.cells cs t (0, 0)) ∧ (t = 48 ∨ t = 73 ∨ t = 63)) : Fr B a w' := by
  refine h.trans ⟨(Below.refl _ _).grown hg hB (fun k e => (hrow k e).1), fun b c t' fr e h1 h2 h3 => ?_, fun b es c e => ?_⟩
  · rw [hg.block b (lt_of_some e) (fun x => by obtain ⟨_, cs, t, e', ht⟩ := hrow b x.symm; rw [e'] at e; cases e; rcases ht with rfl | rfl | rfl <;> first | exact h1 rfl | exact h2 rfl | exact h3 rfl)]; exact e
  · rw [hg.block b (lt_of_some e) (fun x => by obtain ⟨_, cs, t, e', ht⟩ := hrow b x.symm; rw [e'] at e; cases e)]; exact e

/-! ### rows -/
theorem row_block {w : World} {B : Nat} {e : TypeId} {size : Nat} {v : Value} {n : Nat} {xs : List Value} (h : w.ownsRow B e size v n xs) {g : Nat} (hv : v.ownBlock = some g) :
    B ≤ g ∧ ∃ cs, w.heap[g]? = some (.cells cs e (0, 0)) := by
  obtain ⟨_, ⟨rfl, _⟩ | ⟨g', cap, cur, rfl, hb, hg, _⟩⟩ := h
  · cases hv
  · cases hv; exact ⟨hb, cur, hg⟩
theorem row_keep {w w' : World} {B : Nat} {e : TypeId} {size : Nat} {v : Value} {n : Nat} {xs : List Value} (h : w.ownsRow B e size v n xs) (hk : ∀ g, v.ownBlock = some g → w'.heap[g]? = w.heap[g]?) : w'.ownsRow B e size v n xs := by
  obtain ⟨h1, ⟨rfl, h2⟩ | ⟨g', cap, cur, rfl, hb, hg, h3⟩⟩ := h
  · exact ⟨h1, .inl ⟨rfl, h2⟩⟩
  · exact ⟨h1, .inr ⟨g', cap, cur, rfl, hb, (hk g' rfl).trans hg, h3⟩⟩
/-- a row whose block differs from another's by its elements' type -/
theorem row_apart {w : World} {g g' : Nat} {cs cs' : Array Value} {t t' : TypeId} {fr fr' : Nat × Nat} (h : w.heap[g]? = some (.cells cs t fr)) (h' : w.heap[g']? = some (.cells cs' t' fr')) (ht : t ≠ t') : g ≠ g' := by
  rintro rfl; rw [h] at h'; cases h'; exact ht rfl

/-! ### the tree -/
/-- the records of the j-th block -/
def ck (rs : List (List Value)) (j : Nat) : List (List Value) := (rs.drop (4096 * j)).take 4096
/-- the j-th block's slice -/
def bval (rs : List (List Value)) (G C : Nat → Nat) (j : Nat) : Value := .slice (some ⟨G j, 0, none⟩) (ck rs j).length (C j)
structure TI (B : Nat) (w : World) (bt : Nat) (rs : List (List Value)) (nb : Nat) (vb : Value) (tcs : Array Value) (G C : Nat → Nat) : Prop where
  hB : B ≤ bt
  tree : w.heap[bt]? = some (.cells tcs 48 (0, 0))
  sz : tcs.size = 12
  t2 : tcs[2]? = some vb
  t3 : tcs[3]? = some (.int .u32 rs.length)
  own : w.ownsRow B 73 1 vb nb ((List.range nb).map (bval rs G C))
  chunk : ∀ j, j < nb → w.ownsRow B 63 8 (bval rs G C j) (ck rs j).length (ck rs j).flatten
  inj : ∀ i j, i < nb → j < nb → G i = G j → i = j
  wid : ∀ r ∈ rs, r.length = 8
theorem TI.keep {B : Nat} {w w' : World} {bt : Nat} {rs : List (List Value)} {nb : Nat} {vb : Value} {tcs : Array Value} {G C : Nat → Nat} (h : TI B w bt rs nb vb tcs G C)
    (hk : ∀ b, b < w.heap.size → w'.heap[b]? = w.heap[b]?) : TI B w' bt rs nb vb tcs G C :=
  ⟨h.hB, (hk _ (lt_of_some h.tree)).trans h.tree, h.sz, h.t2, h.t3,
    row_keep h.own (fun g hg => hk g (lt_of_some (row_block h.own hg).2.choose_spec)),
    fun j hj => row_keep (h.chunk j hj) (fun g hg => hk g (lt_of_some (row_block (h.chunk j hj) hg).2.choose_spec)), h.inj, h.wid⟩
theorem TI.alloc {B : Nat} {w : World} {bt : Nat} {rs : List (List Value)} {nb : Nat} {vb : Value} {tcs : Array Value} {G C : Nat → Nat} (h : TI B w bt rs nb vb tcs G C) (o : Obj) : TI B (w.alloc o) bt rs nb vb tcs G C :=
  h.keep fun b hb => Below.heap_alloc _ _ _ hb
theorem TI.drewN {B : Nat} {w : World} {bt : Nat} {rs : List (List Value)} {nb : Nat} {vb : Value} {tcs : Array Value} {G C : Nat → Nat} (h : TI B w bt rs nb vb tcs G C) (n : Nat) : TI B (w.drewN n) bt rs nb vb tcs G C :=
  h.keep fun _ _ => rfl
/-- what the j-th block is -/
theorem TI.row {B : Nat} {w : World} {bt : Nat} {rs : List (List Value)} {nb : Nat} {vb : Value} {tcs : Array Value} {G C : Nat → Nat} (h : TI B w bt rs nb vb tcs G C) {j : Nat} (hj : j < nb) :
    B ≤ G j ∧ ∃ cur, w.heap[G j]? = some (.cells cur 63 (0, 0)) ∧ (ck rs j).length ≤ C j ∧ cur.size = C j * 8 ∧ cur.toList.take ((ck rs j).length * 8) = (ck rs j).flatten := by
  obtain ⟨_, ⟨h1, _⟩ | ⟨g', cap, cur, h1, hb, hg, h3, _, h5, h6⟩⟩ := h.chunk j hj
  · cases h1
  · unfold bval at h1; cases h1; exact ⟨hb, cur, hg, h3, h5, h6⟩
/-- the row of blocks -/
theorem TI.rows {B : Nat} {w : World} {bt : Nat} {rs : List (List Value)} {nb : Nat} {vb : Value} {tcs : Array Value} {G C : Nat → Nat} (h : TI B w bt rs nb vb tcs G C) (hn : 0 < nb) :
    ∃ gb cb bcs, vb = .slice (some ⟨gb, 0, none⟩) nb cb ∧ B ≤ gb ∧ w.heap[gb]? = some (.cells bcs 73 (0, 0)) ∧ nb ≤ cb ∧ bcs.size = cb ∧ ∀ j, j < nb → bcs[j]? = some (bval rs G C j) := by
  obtain ⟨_, ⟨_, h1⟩ | ⟨gb, cb, bcs, rfl, hb, hg, h3, _, h5, h6⟩⟩ := h.own
  · omega
  · refine ⟨gb, cb, bcs, rfl, hb, hg, h3, by omega, fun j hj => ?_⟩
    have e : (bcs.toList.take (nb * 1))[j]? = ((List.range nb).map (bval rs G C))[j]? := by rw [h6]
    rw [List.getElem?_take, if_pos (by omega), List.getElem?_map, List.getElem?_range hj] at e
    simpa using e
theorem ck_snoc_lt (rs : List (List Value)) (r : List Value) {j : Nat} (h : 4096 * j + 4096 ≤ rs.length) : ck (rs ++ [r]) j = ck rs j := by
  unfold ck
  rw [List.drop_append_of_le_length (by omega), List.take_append_of_le_length (by simp; omega)]
theorem ck_snoc_last (rs : List (List Value)) (r : List Value) {j : Nat} (h : 4096 * j ≤ rs.length) (h2 : rs.length < 4096 * j + 4096) : ck (rs ++ [r]) j = ck rs j ++ [r] := by
  unfold ck
  rw [List.drop_append_of_le_length h, List.take_append]
  simp only [List.length_drop]
  rw [List.take_of_length_le (l := List.drop (4096 * j) rs) (by simp; omega), List.take_of_length_le (l := [r]) (by simp; omega)]
theorem ck_len (rs : List (List Value)) (j : Nat) : (ck rs j).length = min 4096 (rs.length - 4096 * j) := by unfold ck; simp
/-! ### the two steps of an add -/
/-- A new, empty block behind the others: 'W' is the world at the append, 'gm' the new block. -/
theorem TI.grow {B : Nat} {w W w1 : World} {bt : Nat} {rs : List (List Value)} {nb : Nat} {vb : Value} {tcs : Array Value} {G C : Nat → Nat} (h : TI B w bt rs nb vb tcs G C) (hn : rs.length ≤ 4096 * nb)
    {gm cm gg cap : Nat} {Z : Array Value} (hW : ∀ b, b < w.heap.size → W.heap[b]? = w.heap[b]?) (hgm : W.heap[gm]? = some (.cells Z 63 (0, 0))) (hgmB : w.heap.size ≤ gm) (hBw : B ≤ w.heap.size) (hZ : Z.size = cm * 8) (hcm : cm ≤ maxLen)
    (hown : w1.ownsRow B 73 1 (.slice (some ⟨gg, 0, none⟩) (nb + 1) cap) (nb + 1) ((List.range nb).map (bval rs G C) ++ [.slice (some ⟨gm, 0, none⟩) 0 cm])) (hgrow : W.grownBy w1 vb.ownBlock) :
    TI B (w1.setCell ⟨bt, 2, none⟩ (.slice (some ⟨gg, 0, none⟩) (nb + 1) cap)) bt rs (nb + 1) (.slice (some ⟨gg, 0, none⟩) (nb + 1) cap) (tcs.setIfInBounds 2 (.slice (some ⟨gg, 0, none⟩) (nb + 1) cap))
      (fun j => if j = nb then gm else G j) (fun j => if j = nb then cm else C j) := by
  have hvb : ∀ (b : Nat) (cs : Array Value) (t : TypeId) (fr : Nat × Nat), W.heap[b]? = some (Obj.cells cs t fr) → t ≠ 73 → w1.heap[b]? = some (Obj.cells cs t fr) := by
    intro b cs t fr e ht
    rw [hgrow.block b (lt_of_some e) (fun x => ?_)]; exact e
    obtain ⟨_, cs', e'⟩ := row_block h.own x.symm
    rw [← hW b (lt_of_some e')] at e'
    rw [e'] at e; cases e; exact ht rfl
  have htree : w1.heap[bt]? = some (.cells tcs 48 (0, 0)) := hvb _ _ _ _ ((hW _ (lt_of_some h.tree)).trans h.tree) (by decide)
  have hgg : ∃ cs, w1.heap[gg]? = some (.cells cs 73 (0, 0)) := (row_block hown rfl).2
  have ckn : ck rs nb = [] := by unfold ck; rw [List.drop_eq_nil_of_le hn]; rfl
  have bv : ∀ j, j < nb → bval rs (fun j => if j = nb then gm else G j) (fun j => if j = nb then cm else C j) j = bval rs G C j := fun j hj => by
    unfold bval; dsimp only; rw [if_neg (by omega), if_neg (by omega)]
  have bvn : bval rs (fun j => if j = nb then gm else G j) (fun j => if j = nb then cm else C j) nb = .slice (some ⟨gm, 0, none⟩) 0 cm := by
    unfold bval; dsimp only; rw [if_pos rfl, if_pos rfl, ckn]; rfl
  have hlist : (List.range (nb + 1)).map (bval rs (fun j => if j = nb then gm else G j) (fun j => if j = nb then cm else C j)) = (List.range nb).map (bval rs G C) ++ [.slice (some ⟨gm, 0, none⟩) 0 cm] := by
    rw [List.range_succ, List.map_append]
    congr 1
    · exact List.map_congr_left fun j hj => bv j (List.mem_range.1 hj)
    · simp only [List.map_cons, List.map_nil, bvn]
  have hset : ∀ b, b ≠ bt → (w1.setCell ⟨bt, 2, none⟩ (.slice (some ⟨gg, 0, none⟩) (nb + 1) cap)).heap[b]? = w1.heap[b]? := fun b hb => heap_setCell_other _ _ _ _ hb
  refine ⟨h.hB, heap_setCell_same _ _ _ _ _ _ htree, by simpa using h.sz, ?_, ?_, ?_, fun j hj => ?_, fun i j hi hj e => ?_, h.wid⟩
  · have := h.sz; simp [this]
  · rw [Array.getElem?_setIfInBounds, if_neg (by omega)]; exact h.t3
  · rw [hlist]
    refine row_keep hown fun g hg => hset g ?_
    obtain ⟨cs, e⟩ := hgg
    cases hg
    exact row_apart e htree (by decide)
  · by_cases hjn : j = nb
    · subst hjn
      rw [bvn, ckn]
      have e1 := hvb _ _ _ _ hgm (by decide)
      refine ⟨rfl, .inr ⟨gm, cm, Z, rfl, by omega, ?_, Nat.zero_le _, hcm, hZ, by simp⟩⟩
      rw [hset gm (row_apart e1 htree (by decide))]; exact e1
    · have hj' : j < nb := by omega
      rw [bv j hj']
      refine row_keep (row_keep (h.chunk j hj') fun g hg => ?_) fun g hg => hset g ?_
      · obtain ⟨_, cs, e⟩ := row_block (h.chunk j hj') hg
        rw [e]; exact hvb _ _ _ _ ((hW _ (lt_of_some e)).trans e) (by decide)
      · obtain ⟨_, cs, e⟩ := row_block (h.chunk j hj') hg
        exact row_apart (hvb _ _ _ _ ((hW _ (lt_of_some e)).trans e) (by decide)) htree (by decide)
  · have hlt : ∀ j, j < nb → G j < w.heap.size := fun j hj => lt_of_some (h.row hj).2.choose_spec.1
    by_cases h1 : i = nb <;> by_cases h2 : j = nb
    · omega
    · simp only [h1, h2, if_true, if_false] at e; have := hlt j (by omega); omega
    · simp only [h1, h2, if_true, if_false] at e; have := hlt i (by omega); omega
    · simp only [h1, h2, if_false] at e; exact h.inj i j (by omega) (by omega) e
/-- One record more in the last block. -/
theorem TI.push {B : Nat} {w W w1 : World} {bt : Nat} {rs : List (List Value)} {m : Nat} {tcs : Array Value} {G C : Nat → Nat} {gb cb : Nat} (h : TI B w bt rs (m + 1) (.slice (some ⟨gb, 0, none⟩) (m + 1) cb) tcs G C)
    (hm1 : 4096 * m ≤ rs.length) (hm2 : rs.length < 4096 * m + 4096) (r : List Value) (hr : r.length = 8)
    {gg cap H : Nat} (hW : ∀ b, b < w.heap.size → W.heap[b]? = w.heap[b]?) (hH : w.heap.size ≤ H)
    (hown : w1.ownsRow B 63 8 (.slice (some ⟨gg, 0, none⟩) ((ck rs m).length + 1) cap) ((ck rs m).length + 1) ((ck rs m).flatten ++ r)) (hgrow : W.grownBy w1 (some (G m))) (hat : some (G m) = some gg ∨ gg = H) (k' : Int) (hk' : k' = (rs.length : Int) + 1) :
    TI B ((w1.setCell ⟨gb, m, none⟩ (.slice (some ⟨gg, 0, none⟩) ((ck rs m).length + 1) cap)).setCell ⟨bt, 3, none⟩ (.int .u32 k')) bt (rs ++ [r]) (m + 1) (.slice (some ⟨gb, 0, none⟩) (m + 1) cb) (tcs.setIfInBounds 3 (.int .u32 k'))
      (fun j => if j = m then gg else G j) (fun j => if j = m then cap else C j) := by
  subst hk'
  have hvb : ∀ b, b < w.heap.size → b ≠ G m → w1.heap[b]? = w.heap[b]? := fun b hb hne => by
    rw [hgrow.block b (by have := hW b hb; rw [Array.getElem?_eq_getElem hb] at this; exact lt_of_some this) (fun x => hne (Option.some.inj x))]; exact hW b hb
  obtain ⟨gb', cb', bcs, e0, hgbB, hgb, hcb, hbs, hbc⟩ := h.rows (Nat.succ_pos m)
  cases e0
  obtain ⟨hGB, cur, hG, _⟩ := h.row (Nat.lt_succ_self m)
  have n1 : gb ≠ G m := row_apart hgb hG (by decide)
  have n2 : bt ≠ G m := row_apart h.tree hG (by decide)
  have n3 : gb ≠ bt := row_apart hgb h.tree (by decide)
  have htree : w1.heap[bt]? = some (.cells tcs 48 (0, 0)) := (hvb bt (lt_of_some h.tree) n2).trans h.tree
  have hgb1 : w1.heap[gb]? = some (.cells bcs 73 (0, 0)) := (hvb gb (lt_of_some hgb) n1).trans hgb
  obtain ⟨hggB, gcs, hgg⟩ := row_block hown rfl
  have n4 : gg ≠ gb := row_apart hgg hgb1 (by decide)
  have n5 : gg ≠ bt := row_apart hgg htree (by decide)
  have bv : ∀ j, j < m → bval (rs ++ [r]) (fun j => if j = m then gg else G j) (fun j => if j = m then cap else C j) j = bval rs G C j := fun j hj => by
    unfold bval; dsimp only; rw [if_neg (by omega), if_neg (by omega), ck_snoc_lt rs r (by omega)]
  have bvm : bval (rs ++ [r]) (fun j => if j = m then gg else G j) (fun j => if j = m then cap else C j) m = .slice (some ⟨gg, 0, none⟩) ((ck rs m).length + 1) cap := by
    unfold bval; dsimp only; rw [if_pos rfl, if_pos rfl, ck_snoc_last rs r hm1 hm2]; simp
  have hset : ∀ b, b ≠ bt → b ≠ gb → ((w1.setCell ⟨gb, m, none⟩ (.slice (some ⟨gg, 0, none⟩) ((ck rs m).length + 1) cap)).setCell ⟨bt, 3, none⟩ (.int .u32 ((rs.length : Int) + 1))).heap[b]? = w1.heap[b]? := fun b hb hb' => by
    rw [heap_setCell_other _ _ _ _ hb, heap_setCell_other _ _ _ _ hb']
  have hgb2 : ((w1.setCell ⟨gb, m, none⟩ (.slice (some ⟨gg, 0, none⟩) ((ck rs m).length + 1) cap)).setCell ⟨bt, 3, none⟩ (.int .u32 ((rs.length : Int) + 1))).heap[gb]? = some (.cells (bcs.setIfInBounds m (.slice (some ⟨gg, 0, none⟩) ((ck rs m).length + 1) cap)) 73 (0, 0)) := by
    rw [heap_setCell_other _ _ _ _ n3]; exact heap_setCell_same _ _ _ _ _ _ hgb1
  have htree2 : (w1.setCell ⟨gb, m, none⟩ (.slice (some ⟨gg, 0, none⟩) ((ck rs m).length + 1) cap)).heap[bt]? = some (.cells tcs 48 (0, 0)) := by
    rw [heap_setCell_other _ _ _ _ (Ne.symm n3)]; exact htree
  refine ⟨h.hB, heap_setCell_same _ _ _ _ _ _ htree2, by simpa using h.sz, ?_, ?_, ?_, fun j hj => ?_, fun i j hi hj e => ?_, ?_⟩
  · rw [Array.getElem?_setIfInBounds, if_neg (by omega)]; exact h.t2
  · have := h.sz; simp [this]
  · have hlen : ((List.range (m + 1)).map (bval (rs ++ [r]) (fun j => if j = m then gg else G j) (fun j => if j = m then cap else C j))).length = (m + 1) * 1 := by simp
    obtain ⟨_, ⟨h1, _⟩ | ⟨g', c', cu', h1, _, hg', h4, h5, h6, _⟩⟩ := h.own
    · cases h1
    · cases h1
      refine ⟨hlen, .inr ⟨gb, cb, _, rfl, hgbB, hgb2, hcb, h5, by simpa using hbs, ?_⟩⟩
      apply List.ext_getElem?
      intro j
      rw [List.getElem?_take]
      by_cases hj : j < (m + 1) * 1
      · rw [if_pos hj, List.getElem?_map, List.getElem?_range (by omega), Array.getElem?_toList, Array.getElem?_setIfInBounds]
        by_cases hjm : j = m
        · subst hjm; rw [if_pos rfl, if_pos (by omega), Option.map_some, bvm]
        · rw [if_neg (Ne.symm hjm), hbc j (by omega), Option.map_some, bv j (by omega)]
      · rw [if_neg hj, List.getElem?_eq_none (by simp; omega)]
  · by_cases hjm : j = m
    · subst hjm
      rw [bvm, ck_snoc_last rs r hm1 hm2]
      refine row_keep ?_ fun g hg => hset g (by cases hg; exact n5) (by cases hg; exact n4)
      simpa using hown
    · have hj' : j < m := by omega
      obtain ⟨_, cu, hGj, _⟩ := h.row (j := j) (by omega)
      have hne : G j ≠ G m := fun x => hjm (h.inj j m (by omega) (by omega) x)
      have e1 : w1.heap[G j]? = some (.cells cu 63 (0, 0)) := (hvb _ (lt_of_some hGj) hne).trans hGj
      rw [bv j hj', ck_snoc_lt rs r (by omega)]
      refine row_keep (row_keep (h.chunk j (by omega)) fun g hg => ?_) fun g hg => hset g ?_ ?_
      · cases hg; rw [e1, hGj]
      · cases hg; exact row_apart e1 htree (by decide)
      · cases hg; exact row_apart e1 hgb1 (by decide)
  · have hgm : ∀ j, j < m → G j ≠ gg := fun j hj x => by
      rcases hat with hat | hat
      · have := h.inj j m (by omega) (by omega) (x.trans (Option.some.inj hat).symm); omega
      · have := lt_of_some (h.row (j := j) (by omega)).2.choose_spec.1; omega
    by_cases h1 : i = m <;> by_cases h2 : j = m
    · omega
    · simp only [h1, h2, if_true, if_false] at e; exact absurd e.symm (hgm j (by omega))
    · simp only [h1, h2, if_true, if_false] at e; exact absurd e (hgm i (by omega))
    · simp only [h1, h2, if_false] at e; exact h.inj i j (by omega) (by omega) e
  · intro x hx
    rcases List.mem_append.1 hx with hx | hx
    · exact h.wid x hx
    · rw [List.mem_singleton.1 hx]; exact hr
theorem Fr.pushed {B : Nat} {w W w1 : World} {bt : Nat} {rs : List (List Value)} {m : Nat} {tcs : Array Value} {G C : Nat → Nat} {gb cb : Nat} (h : TI B w bt rs (m + 1) (.slice (some ⟨gb, 0, none⟩) (m + 1) cb) tcs G C)
    (hF : Fr B w W) (hBW : B ≤ W.heap.size) (hW : ∀ b, b < w.heap.size → W.heap[b]? = w.heap[b]?) (hgrow : W.grownBy w1 (some (G m))) (u v : Value) : Fr B w ((w1.setCell ⟨gb, m, none⟩ u).setCell ⟨bt, 3, none⟩ v) := by
  obtain ⟨gb', cb', bcs, e0, hgbB, hgb, hcb, hbs, hbc⟩ := h.rows (Nat.succ_pos m)
  cases e0
  obtain ⟨hGB, cur, hG, _⟩ := h.row (Nat.lt_succ_self m)
  have hvb : ∀ b, b < w.heap.size → b ≠ G m → w1.heap[b]? = w.heap[b]? := fun b hb hne => by
    rw [hgrow.block b (by have := hW b hb; rw [Array.getElem?_eq_getElem hb] at this; exact lt_of_some this) (fun x => hne (Option.some.inj x))]; exact hW b hb
  have n1 : gb ≠ G m := row_apart hgb hG (by decide)
  have n2 : bt ≠ G m := row_apart h.tree hG (by decide)
  have n3 : gb ≠ bt := row_apart hgb h.tree (by decide)
  refine (((hF.grown hgrow hBW fun g hg => ?_).set (g := gb) (i := m) (t := 73) ((hvb gb (lt_of_some hgb) n1).trans hgb) hgbB (.inr (.inl rfl)) u).set (g := bt) (i := 3) (t := 48) (cs := tcs) ?_ h.hB (.inl rfl) v)
  · cases hg
    exact ⟨hGB, cur, 63, (hW _ (lt_of_some hG)).trans hG, .inr (.inr rfl)⟩
  · rw [heap_setCell_other _ _ _ _ (Ne.symm n3)]; exact (hvb bt (lt_of_some h.tree) n2).trans h.tree
end Go.Proofs.Qxb6609232a.T
