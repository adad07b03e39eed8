import Derived.Test.Qxb6609239aIdx
import Derived.Deep.RegionHeld3
namespace Go.Proofs.Qxb6609239a.R
open Go.RowKit
set_option linter.unusedVariables false
attribute [local go_sem ↓] Go.wp_at_zero Go.wp_at_succ
theorem mkf (fn : Fn) (a b : Array Value) (w : World) : (Instr.makeFunc fn a b).run Try.prog w = .ok (.func fn a b) w := rfl

set_option maxRecDepth 100000 in
set_option maxHeartbeats 3200000 in
theorem con34 (p : Nat × TR → Bool) (xs : List (Nat × TR)) (bi : Nat) (ad : Option Addr) (b off cap : Nat) (w : World) (h : Row w 1 acl xs ad b off) (hl : xs.length ≤ 1048576)
    (hc : ∀ x ∈ xs, ∀ W v, Old w W → p x = v → Calls Try.prog 35 #[.pointer (some ⟨x.1, 0, none⟩), .pointer (some ⟨bi, 0, none⟩)] W fun e w' => e = .returned (.bool v) ∧ Old W w') (v : Bool) (hv : xs.any p = v) :
    Calls Try.prog 34 #[.slice ad xs.length cap, .func (.func 35) #[] #[.pointer (some ⟨bi, 0, none⟩)]] w fun e w' => e = .returned (.bool v) ∧ Old w w' := by
  obtain ⟨r, hr⟩ : ∃ r, idx p xs = r := ⟨_, rfl⟩
  have HC := hide (idx45 p xs bi ad b off cap w h hl hc r hr)
  have HD : Hid (decide (0 ≤ r) = v) := hide (by rw [← hr, ← hv]; exact idx_any p xs)
  clear h hc hr hv
  go_enter Try.func34, Try.ntmps34
  go_wp2_with (go_at_call 45; refine HC.out.mono ?_; rintro e w3 ⟨rfl, ho3⟩; have HO3 := hide ho3; clear ho3)
  go_ret
  exact ⟨ret_bool HD.out, HO3.out⟩

set_option maxRecDepth 100000 in
set_option maxHeartbeats 3200000 in
theorem con47 (p : NS → Bool) (xs : List (NS)) (n : NS) (ad : Option Addr) (b off cap : Nat) (w : World) (h : Row w 5 NS.cells xs ad b off) (hl : xs.length ≤ 1048576)
    (hc : ∀ x ∈ xs, ∀ W v, Old w W → p x = v → Calls Try.prog 40 #[.agg n.cells, .agg x.cells] W fun e w' => e = .returned (.bool v) ∧ Old W w') (v : Bool) (hv : xs.any p = v) :
    Calls Try.prog 47 #[.slice ad xs.length cap, .func (.func 40) #[.agg n.cells] #[]] w fun e w' => e = .returned (.bool v) ∧ Old w w' := by
  obtain ⟨r, hr⟩ : ∃ r, idx p xs = r := ⟨_, rfl⟩
  have HC := hide (idx46s p xs n ad b off cap w h hl hc r hr)
  have HD : Hid (decide (0 ≤ r) = v) := hide (by rw [← hr, ← hv]; exact idx_any p xs)
  clear h hc hr hv
  go_enter Try.func47, Try.ntmps47
  go_wp2_with (go_at_call 46; refine HC.out.mono ?_; rintro e w3 ⟨rfl, ho3⟩; have HO3 := hide ho3; clear ho3)
  go_ret
  exact ⟨ret_bool HD.out, HO3.out⟩

set_option maxRecDepth 100000 in
set_option maxHeartbeats 3200000 in
theorem asked33N (aa : List (Nat × TR)) (n : NS) (bn bt : Nat) (ad : Option Addr) (b off cap : Nat) (w : World) (h : Row w 1 acl aa ad b off) (hl : aa.length ≤ 1048576) (hk : ∀ a ∈ aa, AOK w a) (hn : ∀ f v, n.cells[f]? = some v → w.cell? ⟨bn, f, none⟩ = some v)
    (ht : w.cell? ⟨bt, 0, none⟩ = some (.slice ad aa.length cap)) (v : Bool) (hv : aa.any (fun a => askN a.2 n) = v) :
    Calls Try.prog 33 #[.func (.func 39) #[] #[.pointer (some ⟨bn, 0, none⟩)], .pointer (some ⟨bt, 0, none⟩)] w fun e w' => e = .returned (.bool v) ∧ Old w w' := by
  have o1 := (Old.refl w).alloc (.cells #[.func (.func 39) #[] #[.pointer (some ⟨bn, 0, none⟩)]] 100)
  have hbi : (w.alloc (.cells #[.func (.func 39) #[] #[.pointer (some ⟨bn, 0, none⟩)]] 100)).cell? ⟨w.heap.size, 0, none⟩ = some (.func (.func 39) #[] #[.pointer (some ⟨bn, 0, none⟩)]) := cell_of_row _ _ 0 _ _ _ (heap_alloc_new w _)
  have HC := hide (con34 (fun a => askN a.2 n) aa w.heap.size ad b off cap _ (h.old o1) hl (fun x hx W v ho hp => clo35N x n bn _ W ((hk x hx).old (o1.trans ho)) (fun f v hv => (o1.trans ho).cell (hn f v hv)) (ho.cell hbi) v hp) v hv)
  have hm := mkf
  have lt1 := cell_lt ht
  have HO := hide o1
  clear h hk hn hv o1 hbi
  go_enter Try.func33, Try.ntmps33
  go_wp2_with (go_at_call 34; refine HC.out.mono ?_; rintro e w3 ⟨rfl, ho3⟩; have HO3 := hide ho3; clear ho3)
  go_ret
  exact ⟨rfl, HO.out.trans HO3.out⟩

set_option maxRecDepth 100000 in
set_option maxHeartbeats 3200000 in
theorem asked33D (aa : List (Nat × TR)) (d : ByteArray) (bn bt : Nat) (ad : Option Addr) (b off cap : Nat) (w : World) (h : Row w 1 acl aa ad b off) (hl : aa.length ≤ 1048576) (hk : ∀ a ∈ aa, AOK w a) (hs : ∀ a ∈ aa, a.2.dn.size ≤ 1048576) (hd : d.size ≤ 1048576) (hn : w.cell? ⟨bn, 0, none⟩ = some (.string d))
    (ht : w.cell? ⟨bt, 0, none⟩ = some (.slice ad aa.length cap)) (v : Bool) (hv : aa.any (fun a => askD a.2 d) = v) :
    Calls Try.prog 33 #[.func (.func 43) #[] #[.pointer (some ⟨bn, 0, none⟩)], .pointer (some ⟨bt, 0, none⟩)] w fun e w' => e = .returned (.bool v) ∧ Old w w' := by
  have o1 := (Old.refl w).alloc (.cells #[.func (.func 43) #[] #[.pointer (some ⟨bn, 0, none⟩)]] 100)
  have hbi : (w.alloc (.cells #[.func (.func 43) #[] #[.pointer (some ⟨bn, 0, none⟩)]] 100)).cell? ⟨w.heap.size, 0, none⟩ = some (.func (.func 43) #[] #[.pointer (some ⟨bn, 0, none⟩)]) := cell_of_row _ _ 0 _ _ _ (heap_alloc_new w _)
  have HC := hide (con34 (fun a => askD a.2 d) aa w.heap.size ad b off cap _ (h.old o1) hl (fun x hx W v ho hp => clo35D x d bn _ W ((hk x hx).old (o1.trans ho)) ((o1.trans ho).cell hn) (hs x hx) hd (ho.cell hbi) v hp) v hv)
  have hm := mkf
  have lt1 := cell_lt ht
  have HO := hide o1
  clear h hk hn hv o1 hbi
  go_enter Try.func33, Try.ntmps33
  go_wp2_with (go_at_call 34; refine HC.out.mono ?_; rintro e w3 ⟨rfl, ho3⟩; have HO3 := hide ho3; clear ho3)
  go_ret
  exact ⟨rfl, HO.out.trans HO3.out⟩
end Go.Proofs.Qxb6609239a.R
