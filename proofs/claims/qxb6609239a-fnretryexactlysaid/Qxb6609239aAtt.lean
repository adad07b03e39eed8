import Derived.Test.Qxb6609239aRequest
namespace Go.Proofs.Qxb6609239a.R
open Go.RowKit
set_option linter.unusedVariables false
attribute [local go_sem ↓] Go.wp_at_zero Go.wp_at_succ
/-- an Attempt as it lies in memory: its block, and what it holds -/
structure AOK (w : World) (a : Nat × TR) : Prop where
  cell : ∀ f v, a.2.cells[f]? = some v → w.cell? ⟨a.1, f, none⟩ = some v
  tok : TOK w a.2
theorem AOK.old {w w' : World} {a : Nat × TR} (h : AOK w a) (ho : Old w w') : AOK w' a := ⟨fun f v hv => ho.cell (h.cell f v hv), h.tok.old ho⟩
abbrev acl (a : Nat × TR) : Array Value := #[.pointer (some ⟨a.1, 0, none⟩)]
theorem info69 : (Try.prog.info? 69).map (fun i => (i.zero, i.size, i.bytes)) = some (some (.pointer none), 1, 8) := by kernel_rfl
theorem get_snoc {α : Type} {aa : List α} {x a : α} {j : Nat} (h : (aa ++ [x])[j]? = some a) : aa[j]? = some a ∨ (j = aa.length ∧ a = x) := by
  by_cases hj : j < aa.length
  · rw [List.getElem?_append_left hj] at h; exact .inl h
  · have h2 := (List.getElem?_eq_some_iff.1 h).1
    simp only [List.length_append, List.length_cons, List.length_nil] at h2
    have e : j = aa.length := by omega
    subst e
    rw [List.getElem?_append_right (Nat.le_refl _)] at h
    simp at h
    exact .inr ⟨rfl, h.symm⟩
/-- b1Attempts on its way -/
structure AS (w : World) (ts : List TR) (k : Nat) (cur : Array Value) (aa : List (Nat × TR)) (wx : World) : Prop where
  heap : wx.heap[w.heap.size]? = some (.cells cur 69 (0, 0))
  size : cur.size = ts.length
  len : aa.length = k
  cell : ∀ (j : Nat) a, aa[j]? = some a → cur[j]? = some (.pointer (some ⟨a.1, 0, none⟩))
  like : ∀ (j : Nat) a t, aa[j]? = some a → ts[j]? = some t → Like t a.2
  ok : ∀ a ∈ aa, ∀ W : World, (∀ b, w.heap.size < b → b < wx.heap.size → W.heap[b]? = wx.heap[b]?) → AOK W a
  old : Old w wx
theorem AS.put {w : World} {ts : List TR} {k : Nat} {cur : Array Value} {aa : List (Nat × TR)} {wx W2 : World} {ga : Nat} (h : AS w ts k cur aa wx) {t t' : TR} (ht : ts[k]? = some t) (hl : Like t t')
    (hsz : wx.heap.size ≤ W2.heap.size) (hold : ∀ b, b < wx.heap.size → b ≠ w.heap.size → W2.heap[b]? = wx.heap[b]?) (hg : W2.heap[w.heap.size]? = some (.cells (cur.setIfInBounds k (.pointer (some ⟨ga, 0, none⟩))) 69 (0, 0)))
    (hgl : w.heap.size < ga) (hga : W2.heap[ga]? = some (.cells t'.cells 68 (0, 0))) (hk : ∀ W : World, (∀ b, w.heap.size < b → b < W2.heap.size → W.heap[b]? = W2.heap[b]?) → TOK W t') (ho : Old w W2) :
    AS w ts (k + 1) (cur.setIfInBounds k (.pointer (some ⟨ga, 0, none⟩))) (aa ++ [(ga, t')]) W2 := by
  have hkl := (List.getElem?_eq_some_iff.1 ht).1
  have hlen := h.len
  refine ⟨hg, by simpa using h.size, by simp [hlen], fun j a ha => ?_, fun j a u ha hu => ?_, fun a ha W hW => ?_, ho⟩
  · rw [Array.getElem?_setIfInBounds]
    rcases get_snoc ha with h1 | h1
    · have := (List.getElem?_eq_some_iff.1 h1).1
      rw [if_neg (by omega)]; exact h.cell j a h1
    · obtain ⟨e, rfl⟩ := h1
      rw [if_pos (by omega), if_pos (by rw [h.size]; exact hkl)]
  · rcases get_snoc ha with h1 | h1
    · exact h.like j a u h1 hu
    · obtain ⟨e, rfl⟩ := h1
      have : j = k := by omega
      subst this
      rw [ht] at hu; cases hu; exact hl
  · rcases List.mem_append.1 ha with h1 | h1
    · exact h.ok a h1 W fun b g1 g2 => (hW b g1 (by omega)).trans (hold b g2 (by omega))
    · rw [List.mem_singleton] at h1
      subst h1
      refine ⟨fun f v hv => ?_, hk W hW⟩
      exact (cell_of_row _ _ f _ _ _ ((hW _ hgl (lt_of_some hga)).trans hga)).trans hv
def adr (q : Option (Nat × Nat)) : Option Addr := q.map fun x => ⟨x.1, x.2, none⟩
theorem req31' (t : TR) (w : World) (h : TOK w t) : Calls Try.prog 31 #[.agg t.cells] w fun e w' => ∃ t' r0 r1 r2 r3 r4, e = .returned (.agg #[.pointer r0, .pointer r1, .pointer r2, .pointer r3, .pointer r4, .bool t.ma]) ∧ Like t t' ∧
    t'.cells = #[.int .u8 t.rule, .int .u8 t.route, .pointer r0, .pointer r1, .pointer r2, .pointer r3, .pointer r4, .bool t.ma, .string t.rej] ∧ (∀ W : World, (∀ b, w.heap.size ≤ b → b < w'.heap.size → W.heap[b]? = w'.heap[b]?) → TOK W t') ∧ Old w w' := by
  refine (req31 t w h).mono ?_
  rintro e w' ⟨t', hl, rfl, hk, ho⟩
  refine ⟨t', adr t'.pm, adr t'.ps, adr t'.pd, adr t'.pp, adr t'.pa, ?_, hl, ?_, hk, ho⟩
  · unfold rq; rw [hl.ma]; rfl
  · unfold TR.cells; rw [hl.ma, hl.rule, hl.route, hl.rej]; rfl
theorem AS.drew {w : World} {ts : List TR} {k : Nat} {cur : Array Value} {aa : List (Nat × TR)} {wx : World} (h : AS w ts k cur aa wx) : AS w ts k cur aa wx.drew :=
  ⟨h.heap, h.size, h.len, h.cell, h.like, h.ok, h.old.drew⟩
end Go.Proofs.Qxb6609239a.R
