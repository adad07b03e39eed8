import Derived.Test.Qxb6609239aHas
import Derived.BigRegion
import Derived.Laws.Cover3
namespace Go.Proofs.Qxb6609239a.R
open Go.RowKit
set_option linter.unusedVariables false
attribute [local go_sem ↓] Go.wp_at_zero Go.wp_at_succ
/-- a new row, filled as far as k -/
structure Filled {α : Type} (w0 w : World) (sz : Nat) (t : TypeId) (cl : α → Array Value) (xs : List α) (g k : Nat) (cur : Array Value) : Prop where
  heap : w.heap[g]? = some (.cells cur t (0, 0))
  size : cur.size = xs.length * sz
  cell : ∀ j x, j < k → xs[j]? = some x → ∀ f v, (cl x)[f]? = some v → cur[j * sz + f]? = some v
  old : Old w0 w
theorem Filled.row {α : Type} {w0 w : World} {sz : Nat} {t : TypeId} {cl : α → Array Value} {xs : List α} {g k : Nat} {cur : Array Value} (h : Filled w0 w sz t cl xs g k cur) (hk : xs.length ≤ k) : Row w sz cl xs (some ⟨g, 0, none⟩) g 0 :=
  ⟨fun _ => rfl, fun j x hx f v hv => by
    rw [Nat.zero_add]
    exact (cell_of_row _ _ _ _ _ _ h.heap).trans (h.cell j x (by have := (List.getElem?_eq_some_iff.1 hx).1; omega) hx f v hv)⟩
abbrev dcl (d : ByteArray) : Array Value := #[.string d]
theorem info64 : (Try.prog.info? 64).map (fun i => (i.zero, i.size, i.bytes)) = some (some (.string ⟨#[]⟩), 1, 16) := by kernel_rfl
theorem info61 : (Try.prog.info? 61).map (fun i => (i.zero, i.size, i.bytes)) = some (some (.agg (ns5 0 0 0 0 false)), 5, 5) := by kernel_rfl
theorem Filled.set1 {w0 w : World} {t : TypeId} {xs : List ByteArray} {g k : Nat} {cur : Array Value} (h : Filled w0 w 1 t dcl xs g k cur) (hg : w0.heap.size ≤ g) {x : ByteArray} (hx : xs[k]? = some x) :
    Filled w0 (w.setCell ⟨g, k, none⟩ (.string x)) 1 t dcl xs g (k + 1) (cur.setIfInBounds k (.string x)) := by
  have hk := (List.getElem?_eq_some_iff.1 hx).1
  have hs := h.size
  refine ⟨heap_setCell_same _ _ _ _ _ _ h.heap, by simpa using h.size, fun j y hj hy f v hv => ?_, h.old.set hg _⟩
  have hf : f = 0 := by have := (Array.getElem?_eq_some_iff.1 hv).1; simp at this; omega
  subst hf
  rw [Array.getElem?_setIfInBounds]
  rcases Nat.lt_succ_iff_lt_or_eq.1 hj with h1 | rfl
  · rw [if_neg (by omega)]; exact h.cell j y h1 hy 0 v hv
  · rw [if_pos (by omega), if_pos (by omega)]
    rw [hx] at hy; cases hy; exact hv
def Made {α : Type} (w : World) (sz : Nat) (cl : α → Array Value) (xs : List α) (e : Ending) (w' : World) : Prop :=
  ∃ ad b off cap, e = .returned (.slice ad xs.length cap) ∧ Row w' sz cl xs ad b off ∧ Old w w'
set_option maxRecDepth 100000 in
set_option maxHeartbeats 3200000 in
theorem dnns15 (xs : List ByteArray) (ad : Option Addr) (b off cap : Nat) (w : World) (h : Row w 1 dcl xs ad b off) (hn : ad = none → cap = 0) (hl : xs.length ≤ 1048576) :
    Calls Try.prog 15 #[.slice ad xs.length cap] w fun e w' => Made w 1 dcl xs e w' := by
  cases ad with
  | none =>
    have h0 : xs.length = 0 := by
      by_cases hp : 0 < xs.length
      · exact absurd (h.at_ hp) (by simp)
      · omega
    have HR := hide h
    have hc := hn rfl
    subst hc
    have HX : Hid (xs = []) := hide (List.length_eq_zero_iff.1 h0)
    rw [h0]
    clear h hn h0
    have hq : ∀ w : World, (binOp .eql 31 (.slice none 0 0) (.slice none 0 0)).run Try.prog w = .ok (.bool true) w := fun w => by kernel_rfl
    go_enter Try.func15, Try.ntmps15
    go_wp2
    go_ret
    obtain rfl := HX.out
    exact ⟨none, 0, 0, 0, rfl, ⟨fun h => absurd h (by simp), fun k x hx => by simp at hx⟩, Old.refl w⟩
  | some a =>
    obtain ⟨Z, hZ, mk⟩ := make_eq (t := 39) Try.underlying39 info64 (by decide) xs.length hl
    have HR := hide h
    have e0 : (0 : Int) ≤ xs.length := by omega
    clear h hn
    have hq : ∀ w : World, (binOp .eql 31 (.slice (some a) xs.length cap) (.slice none 0 0)).run Try.prog w = .ok (.bool false) w := fun w => by kernel_rfl
    go_enter Try.func15, Try.ntmps15
    go_wp2
    go_loopw [4] (fun i w' => ∃ (k : Nat) (cur : Array Value), k ≤ xs.length ∧ i = .int .i64 k ∧ Filled w w' 1 64 dcl xs w.heap.size k cur) (fun i _ => xs.length - (intOf i).toNat)
    case atStart => exact ⟨0, Z, Nat.zero_le _, rfl, ⟨heap_alloc_new w _, hZ, by omega, (Old.refl w).alloc _⟩⟩
    case round =>
      obtain ⟨k, cur, hk, rfl, hF⟩ := hrel
      have HF := hide hF
      by_cases hlt : k < xs.length
      · obtain ⟨x, hx⟩ : ∃ x, xs[k]? = some x := ⟨_, List.getElem?_eq_getElem hlt⟩
        have HX := hide hx
        have i1 : (k : Int) < xs.length := by omega
        have R := HR.out.old hF.old
        have ea := R.at_ (by omega)
        cases ea
        have x0 : wr.cell? ⟨b, off + k, none⟩ = some (.string x) := by have := R.cell k x hx 0 _ rfl; simpa using this
        have ff := frozen_of_row k hF.heap
        have cc : ∃ v, cur[k]? = some v := ⟨_, Array.getElem?_eq_getElem (by have := hF.size; omega)⟩
        obtain ⟨v0, cc⟩ := cc
        have c0 := (cell_of_row _ _ k _ _ _ hF.heap).trans cc
        clear hF R hx cc
        go_wp2
        go_roundw
        case rel => exact ⟨k + 1, _, by omega, by go_num, HF.out.set1 (Nat.le_refl _) HX.out⟩
        case measure => simp [intOf]; omega
      · have i1 : ¬ (k : Int) < xs.length := by omega
        clear hF
        go_wp2
        go_ret
        exact ⟨_, _, _, _, rfl, HF.out.row (by omega), HF.out.old⟩
theorem Filled.drew {α : Type} {w0 w : World} {sz : Nat} {t : TypeId} {cl : α → Array Value} {xs : List α} {g k : Nat} {cur : Array Value} (h : Filled w0 w sz t cl xs g k cur) : Filled w0 w.drew sz t cl xs g k cur :=
  ⟨h.heap, h.size, h.cell, h.old.drew⟩
theorem Filled.set5 {w0 w : World} {t : TypeId} {xs : List NS} {g k : Nat} {cur : Array Value} (h : Filled w0 w 5 t NS.cells xs g k cur) (hg : w0.heap.size ≤ g) {x : NS} (hx : xs[k]? = some x) :
    Filled w0 (((((w.setCell ⟨g, k * 5, none⟩ (.int .u8 x.a)).setCell ⟨g, k * 5 + 1, none⟩ (.int .u8 x.b)).setCell ⟨g, k * 5 + 2, none⟩ (.int .u8 x.c)).setCell ⟨g, k * 5 + 3, none⟩ (.int .u8 x.d)).setCell ⟨g, k * 5 + 4, none⟩ (.bool x.h)) 5 t NS.cells xs g (k + 1)
      (((((cur.setIfInBounds (k * 5) (.int .u8 x.a)).setIfInBounds (k * 5 + 1) (.int .u8 x.b)).setIfInBounds (k * 5 + 2) (.int .u8 x.c)).setIfInBounds (k * 5 + 3) (.int .u8 x.d)).setIfInBounds (k * 5 + 4) (.bool x.h)) := by
  have hk := (List.getElem?_eq_some_iff.1 hx).1
  have hs := h.size
  have h5 := heap_setCell_same _ g (k * 5) _ _ (.int .u8 x.a) h.heap
  have h6 := heap_setCell_same _ g (k * 5 + 1) _ _ (.int .u8 x.b) h5
  have h7 := heap_setCell_same _ g (k * 5 + 2) _ _ (.int .u8 x.c) h6
  have h8 := heap_setCell_same _ g (k * 5 + 3) _ _ (.int .u8 x.d) h7
  refine ⟨heap_setCell_same _ _ _ _ _ _ h8, by simp only [Array.size_setIfInBounds]; exact hs, fun j y hj hy f v hv => ?_, ((((h.old.set hg _).set hg _).set hg _).set hg _).set hg _⟩
  have hf : f < 5 := (Array.getElem?_eq_some_iff.1 hv).1
  simp only [Array.getElem?_setIfInBounds, Array.size_setIfInBounds]
  rcases Nat.lt_succ_iff_lt_or_eq.1 hj with h1 | rfl
  · have := h.cell j y h1 hy f v hv
    rw [if_neg (by omega), if_neg (by omega), if_neg (by omega), if_neg (by omega), if_neg (by omega)]; exact this
  · rw [hx] at hy; cases hy
    have hl : j * 5 + 4 < cur.size := by rw [hs]; omega
    have hcase : f = 0 ∨ f = 1 ∨ f = 2 ∨ f = 3 ∨ f = 4 := by omega
    rcases hcase with rfl | rfl | rfl | rfl | rfl
    · rw [if_neg (by omega), if_neg (by omega), if_neg (by omega), if_neg (by omega), if_pos (by omega), if_pos (by omega)]; exact hv
    · rw [if_neg (by omega), if_neg (by omega), if_neg (by omega), if_pos (by omega), if_pos (by omega)]; exact hv
    · rw [if_neg (by omega), if_neg (by omega), if_pos (by omega), if_pos (by omega)]; exact hv
    · rw [if_neg (by omega), if_pos (by omega), if_pos (by omega)]; exact hv
    · rw [if_pos (by omega), if_pos (by omega)]; exact hv
set_option maxRecDepth 100000 in
set_option maxHeartbeats 3200000 in
theorem snssais14 (xs : List NS) (ad : Option Addr) (b off cap : Nat) (w : World) (h : Row w 5 NS.cells xs ad b off) (hn : ad = none → cap = 0) (hl : xs.length ≤ 1048576) :
    Calls Try.prog 14 #[.slice ad xs.length cap] w fun e w' => Made w 5 NS.cells xs e w' := by
  cases ad with
  | none =>
    have h0 : xs.length = 0 := by
      by_cases hp : 0 < xs.length
      · exact absurd (h.at_ hp) (by simp)
      · omega
    have HR := hide h
    have hc := hn rfl
    subst hc
    have HX : Hid (xs = []) := hide (List.length_eq_zero_iff.1 h0)
    rw [h0]
    clear h hn h0
    have hq : ∀ w : World, (binOp .eql 30 (.slice none 0 0) (.slice none 0 0)).run Try.prog w = .ok (.bool true) w := fun w => by kernel_rfl
    go_enter Try.func14, Try.ntmps14
    go_wp2
    go_ret
    obtain rfl := HX.out
    exact ⟨none, 0, 0, 0, rfl, ⟨fun h => absurd h (by simp), fun k x hx => by simp at hx⟩, Old.refl w⟩
  | some a =>
    obtain ⟨Z, hZ, mk⟩ := make_eq (t := 37) Try.underlying37 info61 (by decide) xs.length hl
    have HR := hide h
    have e0 : (0 : Int) ≤ xs.length := by omega
    clear h hn
    have hq : ∀ w : World, (binOp .eql 30 (.slice (some a) xs.length cap) (.slice none 0 0)).run Try.prog w = .ok (.bool false) w := fun w => by kernel_rfl
    go_enter Try.func14, Try.ntmps14
    go_wp2
    go_loopw [4] (fun i w' => ∃ (k : Nat) (cur : Array Value), k ≤ xs.length ∧ i = .int .i64 k ∧ Filled w w' 5 61 NS.cells xs w.heap.size k cur) (fun i _ => xs.length - (intOf i).toNat)
    case atStart => exact ⟨0, Z, Nat.zero_le _, rfl, ⟨heap_alloc_new w _, hZ, by omega, (Old.refl w).alloc _⟩⟩
    case round =>
      obtain ⟨k, cur, hk, rfl, hF⟩ := hrel
      have HF := hide hF
      by_cases hlt : k < xs.length
      · obtain ⟨x, hx⟩ : ∃ x, xs[k]? = some x := ⟨_, List.getElem?_eq_getElem hlt⟩
        have HX := hide hx
        have i1 : (k : Int) < xs.length := by omega
        have R := HR.out.old hF.old
        have ea := R.at_ (by omega)
        cases ea
        have x0 : wr.cell? ⟨b, off + k * 5, none⟩ = _ := R.cell k x hx 0 _ rfl
        have x1 : wr.cell? ⟨b, off + k * 5 + 1, none⟩ = _ := R.cell k x hx 1 _ rfl
        have x2 : wr.cell? ⟨b, off + k * 5 + 2, none⟩ = _ := R.cell k x hx 2 _ rfl
        have x3 : wr.cell? ⟨b, off + k * 5 + 3, none⟩ = _ := R.cell k x hx 3 _ rfl
        have x4 : wr.cell? ⟨b, off + k * 5 + 4, none⟩ = _ := R.cell k x hx 4 _ rfl
        have f0 := frozen_of_row (k * 5) hF.heap
        have f1 := frozen_of_row (k * 5 + 1) hF.heap
        have f2 := frozen_of_row (k * 5 + 2) hF.heap
        have f3 := frozen_of_row (k * 5 + 3) hF.heap
        have f4 := frozen_of_row (k * 5 + 4) hF.heap
        have cc : ∀ i, i < 5 → ∃ v, cur[k * 5 + i]? = some v := fun i hi => ⟨_, Array.getElem?_eq_getElem (by have := hF.size; omega)⟩
        obtain ⟨v0, q0⟩ := cc 0 (by decide)
        obtain ⟨v1, q1⟩ := cc 1 (by decide)
        obtain ⟨v2, q2⟩ := cc 2 (by decide)
        obtain ⟨v3, q3⟩ := cc 3 (by decide)
        obtain ⟨v4, q4⟩ := cc 4 (by decide)
        have c0 := (cell_of_row _ _ (k * 5) _ _ _ hF.heap).trans q0
        have c1 := (cell_of_row _ _ (k * 5 + 1) _ _ _ hF.heap).trans q1
        have c2 := (cell_of_row _ _ (k * 5 + 2) _ _ _ hF.heap).trans q2
        have c3 := (cell_of_row _ _ (k * 5 + 3) _ _ _ hF.heap).trans q3
        have c4 := (cell_of_row _ _ (k * 5 + 4) _ _ _ hF.heap).trans q4
        clear hF R hx cc q0 q1 q2 q3 q4
        go_wp2
        go_region
        go_wp2
        go_roundw
        case rel => exact ⟨k + 1, _, by omega, by go_num, (HF.out.set5 (Nat.le_refl _) HX.out).drew⟩
        case measure => simp [intOf]; omega
      · have i1 : ¬ (k : Int) < xs.length := by omega
        clear hF
        go_wp2
        go_ret
        exact ⟨_, _, _, _, rfl, HF.out.row (by omega), HF.out.old⟩
end Go.Proofs.Qxb6609239a.R
