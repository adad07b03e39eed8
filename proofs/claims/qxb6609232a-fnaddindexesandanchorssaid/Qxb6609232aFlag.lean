import Derived.Test.Qxb6609232aHeap
/-
  One cell of one record: read and written. No Go text in sight.
-/
namespace Go.Proofs.Qxb6609232a.T
open Go.RowKit
set_option linter.unusedVariables false
theorem flatten_get : ∀ (l : List (List Value)) (o c : Nat) (r : List Value), (∀ x ∈ l, x.length = 8) → l[o]? = some r → c < 8 → l.flatten[o * 8 + c]? = r[c]?
  | [], o, c, r, _, h, _ => by simp at h
  | x :: l, 0, c, r, hw, h, hc => by
    simp at h; subst h
    have := hw x (by simp)
    rw [List.flatten_cons, List.getElem?_append_left (by omega)]; congr 1; omega
  | x :: l, o + 1, c, r, hw, h, hc => by
    have hx := hw x (by simp)
    rw [List.flatten_cons, List.getElem?_append_right (by omega), hx]
    have := flatten_get l o c r (fun y hy => hw y (by simp [hy])) (by simpa using h) hc
    rw [← this]; congr 1; omega
theorem flatten_set : ∀ (l : List (List Value)) (o c : Nat) (r : List Value) (v : Value), (∀ x ∈ l, x.length = 8) → l[o]? = some r → c < 8 → (l.set o (r.set c v)).flatten = l.flatten.set (o * 8 + c) v
  | [], o, c, r, v, _, h, _ => by simp at h
  | x :: l, 0, c, r, v, hw, h, hc => by
    simp at h; subst h
    have := hw x (by simp)
    rw [List.set_cons_zero, List.flatten_cons, List.flatten_cons, Nat.zero_mul, Nat.zero_add, List.set_append_left _ _ (by omega)]
  | x :: l, o + 1, c, r, v, hw, h, hc => by
    have hx := hw x (by simp)
    rw [List.set_cons_succ, List.flatten_cons, List.flatten_cons, flatten_set l o c r v (fun y hy => hw y (by simp [hy])) (by simpa using h) hc, List.set_append_right _ _ (by omega), hx]
    congr 2; omega
theorem ck_get (rs : List (List Value)) (i : Nat) (r : List Value) (h : rs[i]? = some r) : (ck rs (i / 4096))[i % 4096]? = some r := by
  unfold ck
  rw [List.getElem?_take, if_pos (by omega), List.getElem?_drop, ← h]; congr 1; omega
theorem ck_mem {rs : List (List Value)} {j : Nat} {x : List Value} (h : x ∈ ck rs j) : x ∈ rs := List.mem_of_mem_drop (List.mem_of_mem_take h)
theorem ck_set_same (rs : List (List Value)) (i : Nat) (x : List Value) : ck (rs.set i x) (i / 4096) = (ck rs (i / 4096)).set (i % 4096) x := by
  unfold ck
  rw [List.drop_set, if_neg (by omega), List.take_set]; congr 1; omega
theorem ck_set_other (rs : List (List Value)) (i j : Nat) (x : List Value) (h : j ≠ i / 4096) : ck (rs.set i x) j = ck rs j := by
  unfold ck
  rw [List.drop_set]
  split
  · rfl
  · rw [List.take_set, List.set_eq_of_length_le]
    rw [List.length_take]; omega
/-- a cell of the i-th record -/
theorem TI.cell {B : Nat} {w : World} {bt : Nat} {rs : List (List Value)} {nb : Nat} {vb : Value} {tcs : Array Value} {G C : Nat → Nat} (h : TI B w bt rs nb vb tcs G C) (hn2 : rs.length ≤ nb * 4096)
    {i c : Nat} {r : List Value} (hr : rs[i]? = some r) (hc : c < 8) : w.cell? ⟨G (i / 4096), i % 4096 * 8 + c, none⟩ = r[c]? := by
  have hi : i < rs.length := (List.getElem?_eq_some_iff.1 hr).1
  obtain ⟨_, cur, hG, hle, hsz, htk⟩ := h.row (j := i / 4096) (by omega)
  rw [cell_of_row w _ _ _ _ _ hG]
  have e := flatten_get (ck rs (i / 4096)) (i % 4096) c r (fun x hx => h.wid x (ck_mem hx)) (ck_get rs i r hr) hc
  rw [← htk, List.getElem?_take] at e
  have hl : i % 4096 < (ck rs (i / 4096)).length := by rw [ck_len]; omega
  rw [if_pos (by omega)] at e
  simpa using e
/-- a cell of the i-th record is written -/
theorem TI.flag {B : Nat} {w : World} {bt : Nat} {rs : List (List Value)} {nb : Nat} {vb : Value} {tcs : Array Value} {G C : Nat → Nat} (h : TI B w bt rs nb vb tcs G C) (hn2 : rs.length ≤ nb * 4096)
    {i c : Nat} {r : List Value} (hr : rs[i]? = some r) (hc : c < 8) (v : Value) : TI B (w.setCell ⟨G (i / 4096), i % 4096 * 8 + c, none⟩ v) bt (rs.set i (r.set c v)) nb vb tcs G C := by
  have hi : i < rs.length := (List.getElem?_eq_some_iff.1 hr).1
  have hj : i / 4096 < nb := by omega
  obtain ⟨hGB, cur, hG, hle, hsz, htk⟩ := h.row hj
  have hset : ∀ b, b ≠ G (i / 4096) → (w.setCell ⟨G (i / 4096), i % 4096 * 8 + c, none⟩ v).heap[b]? = w.heap[b]? := fun b hb => heap_setCell_other _ _ _ _ hb
  have hl : ∀ j, (ck (rs.set i (r.set c v)) j).length = (ck rs j).length := fun j => by rw [ck_len, ck_len, List.length_set]
  have bv : bval (rs.set i (r.set c v)) G C = bval rs G C := by funext j; unfold bval; rw [hl]
  refine ⟨h.hB, (hset bt (row_apart h.tree hG (by decide))).trans h.tree, h.sz, h.t2, by rw [List.length_set]; exact h.t3, ?_, fun j hj' => ?_, h.inj, ?_⟩
  · rw [bv]
    refine row_keep h.own fun b hb => hset b ?_
    obtain ⟨_, cs', e⟩ := row_block h.own hb
    exact row_apart e hG (by decide)
  · rw [bv, hl]
    by_cases hjj : j = i / 4096
    · subst hjj
      obtain ⟨h1, ⟨h2, _⟩ | ⟨g', cap, cu, h2, h3, h4, h5, h6, h7, h8⟩⟩ := h.chunk (i / 4096) hj
      · cases h2
      · unfold bval at h2; cases h2
        rw [hG] at h4; cases h4
        have hl2 : i % 4096 < (ck rs (i / 4096)).length := by rw [ck_len]; omega
        have fs := flatten_set (ck rs (i / 4096)) (i % 4096) c r v (fun x hx => h.wid x (ck_mem hx)) (ck_get rs i r hr) hc
        refine ⟨?_, .inr ⟨G (i / 4096), C (i / 4096), _, rfl, h3, heap_setCell_same _ _ _ _ _ _ hG, h5, h6, by simpa using h7, ?_⟩⟩
        · rw [ck_set_same, fs, List.length_set]; exact h1
        · rw [ck_set_same, fs, ← h8]
          rw [Array.toList_setIfInBounds, List.take_set]
    · rw [ck_set_other rs i j _ hjj]
      refine row_keep (h.chunk j hj') fun b hb => hset b ?_
      cases hb
      exact fun x => hjj (h.inj j (i / 4096) hj' hj x)
  · intro x hx
    rcases List.mem_or_eq_of_mem_set hx with hx | rfl
    · exact h.wid x hx
    · rw [List.length_set]; exact h.wid r (List.mem_of_getElem? hr)
end Go.Proofs.Qxb6609232a.T
