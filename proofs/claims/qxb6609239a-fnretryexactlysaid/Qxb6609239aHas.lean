import Derived.Test.Qxb6609239aKey
namespace Go.Proofs.Qxb6609239a.R
open Go.RowKit
set_option linter.unusedVariables false
attribute [local go_sem ↓] Go.wp_at_zero Go.wp_at_succ
attribute [local go_sem] eq49 eq97
/-- a slice's elements as they lie in memory: 'sz' cells each -/
structure Row {α : Type} (w : World) (sz : Nat) (cl : α → Array Value) (xs : List α) (ad : Option Addr) (b off : Nat) : Prop where
  at_ : 0 < xs.length → ad = some ⟨b, off, none⟩
  cell : ∀ k x, xs[k]? = some x → ∀ f v, (cl x)[f]? = some v → w.cell? ⟨b, off + k * sz + f, none⟩ = some v
theorem Row.old {α : Type} {w w' : World} {sz : Nat} {cl : α → Array Value} {xs : List α} {ad : Option Addr} {b off : Nat} (h : Row w sz cl xs ad b off) (ho : Old w w') : Row w' sz cl xs ad b off :=
  ⟨h.at_, fun k x hx f v hv => ho.cell (h.cell k x hx f v hv)⟩
theorem Old.of_drew {w w' : World} (h : Old w.drew w') : Old w w' := ((Old.refl w).drew).trans h
theorem key_cells (w : World) (a b c d e : Int) : ∀ f v, (key5 a b c d e)[f]? = some v → (w.alloc (.cells (key5 a b c d e) 97)).cell? ⟨w.heap.size, f, none⟩ = some v := fun f v hv =>
  (cell_of_row _ _ f _ _ _ (heap_alloc_new w (.cells (key5 a b c d e) 97))).trans hv
theorem any_false_of {α : Type} {p : α → Bool} {xs : List α} (h : ∀ (j : Nat) x, xs[j]? = some x → p x = false) : xs.any p = false := by
  rw [List.any_eq_false]
  intro x hx
  obtain ⟨j, hj, rfl⟩ := List.mem_iff_getElem.1 hx
  rw [h j _ (List.getElem?_eq_getElem hj)]; simp
theorem any_true_of {α : Type} {p : α → Bool} {xs : List α} {j : Nat} {x : α} (h : xs[j]? = some x) (hp : p x = true) : xs.any p = true := by
  rw [List.any_eq_true]
  exact ⟨x, List.mem_of_getElem? h, hp⟩
set_option maxRecDepth 100000 in
set_option maxHeartbeats 3200000 in
theorem has17 (xs : List NS) (n : NS) (ad : Option Addr) (b off cap : Nat) (w : World) (h : Row w 5 NS.cells xs ad b off) (hl : xs.length ≤ 1048576) (v : Bool) (hv : xs.any (fun x => sameN x n) = v) :
    Calls Try.prog 17 #[.slice ad xs.length cap, .agg n.cells] w fun e w' => e = .returned (.bool v) ∧ Old w w' := by
  have HV := hide hv
  have HR := hide h
  clear hv h
  go_enter Try.func17, Try.ntmps17
  go_wp2_with (go_at_call 32; refine (key32 n _).mono ?_; rintro e w1 ⟨rfl, ho1⟩)
  have hk := key_cells w1 n.a (kh n.h) (kx n.h n.b) (kx n.h n.c) (kx n.h n.d)
  have HO1 := hide ho1
  have HK := hide hk
  clear hk ho1
  go_loopw [6] (fun i w' => ∃ k : Nat, k ≤ xs.length ∧ i = .int .i64 k ∧ (∀ j x, j < k → xs[j]? = some x → sameN x n = false) ∧ Old (w1.alloc (.cells (key5 n.a (kh n.h) (kx n.h n.b) (kx n.h n.c) (kx n.h n.d)) 97)) w') (fun i _ => xs.length - (intOf i).toNat)
  case atStart => exact ⟨0, Nat.zero_le _, rfl, by omega, Old.refl _⟩
  case round =>
    obtain ⟨k, hk, rfl, hall, hw⟩ := hrel
    have HW := hide hw
    have HA := hide hall
    clear hw hall
    by_cases hlt : k < xs.length
    · obtain ⟨x, hx⟩ : ∃ x, xs[k]? = some x := ⟨_, List.getElem?_eq_getElem hlt⟩
      have HX := hide hx
      have R := HR.out.old ((((Old.refl w).alloc _).trans HO1.out).trans (((Old.refl w1).alloc _).trans HW.out))
      have i1 : (k : Int) < xs.length := by omega
      obtain rfl := R.at_ (by omega)
      have x0 : wr.cell? ⟨b, off + k * 5, none⟩ = _ := R.cell k x hx 0 _ rfl
      have x1 : wr.cell? ⟨b, off + k * 5 + 1, none⟩ = _ := R.cell k x hx 1 _ rfl
      have x2 : wr.cell? ⟨b, off + k * 5 + 2, none⟩ = _ := R.cell k x hx 2 _ rfl
      have x3 : wr.cell? ⟨b, off + k * 5 + 3, none⟩ = _ := R.cell k x hx 3 _ rfl
      have x4 : wr.cell? ⟨b, off + k * 5 + 4, none⟩ = _ := R.cell k x hx 4 _ rfl
      have y0 : wr.cell? ⟨w1.heap.size, 0, none⟩ = _ := HW.out.cell (HK.out 0 _ rfl)
      have y1 : wr.cell? ⟨w1.heap.size, 1, none⟩ = _ := HW.out.cell (HK.out 1 _ rfl)
      have y2 : wr.cell? ⟨w1.heap.size, 2, none⟩ = _ := HW.out.cell (HK.out 2 _ rfl)
      have y3 : wr.cell? ⟨w1.heap.size, 3, none⟩ = _ := HW.out.cell (HK.out 3 _ rfl)
      have y4 : wr.cell? ⟨w1.heap.size, 4, none⟩ = _ := HW.out.cell (HK.out 4 _ rfl)
      clear R hx
      cases hs : sameN x n
      · have HS := hide hs
        have E := (key_same x n).trans hs
        clear hs
        go_wp2
        go_region_with (go_at_call 32; refine (key32 x _).mono ?_; rintro e w3 ⟨rfl, ho3⟩; have HO3 := hide ho3; have z0 := HO3.out.cell y0; have z1 := HO3.out.cell y1; have z2 := HO3.out.cell y2; have z3 := HO3.out.cell y3; have z4 := HO3.out.cell y4; clear ho3)
        all_goals
          go_wp2
          go_roundw
          case rel =>
            refine ⟨k + 1, by omega, by go_num, ?_, HW.out.trans HO3.out.of_drew⟩
            intro j y hj hy
            rcases Nat.lt_succ_iff_lt_or_eq.1 hj with h | rfl
            · exact HA.out j y h hy
            · rw [HX.out] at hy; cases hy; exact HS.out
          case measure => simp [intOf]; omega
      · have HF : Hid (true = v) := hide (HV.out ▸ (any_true_of (p := fun x => sameN x n) HX.out hs).symm)
        have E := (key_same x n).trans hs
        clear hs
        go_wp2
        go_region_with (go_at_call 32; refine (key32 x _).mono ?_; rintro e w3 ⟨rfl, ho3⟩; have HO3 := hide ho3; have z0 := HO3.out.cell y0; have z1 := HO3.out.cell y1; have z2 := HO3.out.cell y2; have z3 := HO3.out.cell y3; have z4 := HO3.out.cell y4; clear ho3)
        all_goals
          go_wp2
          go_ret
          exact ⟨ret_bool HF.out, (((Old.refl w).alloc _).trans HO1.out).trans ((((Old.refl w1).alloc _).trans HW.out).trans HO3.out.of_drew)⟩
    · have HF : Hid (false = v) := hide (HV.out ▸ (any_false_of (p := fun x => sameN x n) (fun j x hx => HA.out j x (by have := (List.getElem?_eq_some_iff.1 hx).1; omega) hx)).symm)
      have i1 : ¬ (k : Int) < xs.length := by omega
      go_wp2
      go_ret
      exact ⟨ret_bool HF.out, (((Old.refl w).alloc _).trans HO1.out).trans (((Old.refl w1).alloc _).trans HW.out)⟩
end Go.Proofs.Qxb6609239a.R
