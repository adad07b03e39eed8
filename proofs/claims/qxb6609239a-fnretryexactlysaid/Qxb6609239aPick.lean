import Derived.Test.Qxb6609239aCho
namespace Go.Proofs.Qxb6609239a.R
open Go.RowKit
set_option linter.unusedVariables false
attribute [local go_sem ↓] Go.wp_at_zero Go.wp_at_succ

set_option maxRecDepth 100000 in
set_option maxHeartbeats 3200000 in
theorem choose41 (p : ByteArray → Bool) (xs : List ByteArray) (bc : Nat) (ad : Option Addr) (b off cap : Nat) (w : World) (h : Row w 1 dcl xs ad b off) (hl : xs.length ≤ 1048576)
    (hc : ∀ x ∈ xs, ∀ W v, Old w W → p x = v → Calls Try.prog 42 #[.string x, .pointer (some ⟨bc, 0, none⟩)] W fun e w' => e = .returned (.bool v) ∧ Old W w') (k : Nat) (hr : idx p xs = k) :
    Calls Try.prog 41 #[.slice ad xs.length cap, .func (.func 42) #[] #[.pointer (some ⟨bc, 0, none⟩)]] w fun e w' => (∃ v, e = .returned (.tuple #[.pointer (some ⟨b, off + k, none⟩), .bool v])) ∧ Old w w' := by
  have HC := hide (idx48 p xs bc ad b off cap w h hl hc k hr)
  have hk := idx_lt hr
  have i1 : (k : Int) < xs.length := by omega
  have n0 : ((xs.length : Int) == 0) = false := by rw [beq_eq_false_iff_ne]; omega
  obtain rfl := h.at_ (by omega)
  clear h hc hr
  go_enter Try.func41, Try.ntmps41
  go_wp2_with (go_at_call 48; refine HC.out.mono ?_; rintro e w3 ⟨rfl, ho3⟩; have HO3 := hide ho3; clear ho3)
  go_ret2
  exact ⟨⟨_, rfl⟩, HO3.out⟩
set_option maxRecDepth 100000 in
set_option maxHeartbeats 3200000 in
theorem choose41n (p : ByteArray → Bool) (xs : List ByteArray) (bc : Nat) (ad : Option Addr) (b off cap : Nat) (w : World) (h : Row w 1 dcl xs ad b off) (hl : xs.length ≤ 1048576)
    (hc : ∀ x ∈ xs, ∀ W v, Old w W → p x = v → Calls Try.prog 42 #[.string x, .pointer (some ⟨bc, 0, none⟩)] W fun e w' => e = .returned (.bool v) ∧ Old W w') (hr : idx p xs = -1) :
    Calls Try.prog 41 #[.slice ad xs.length cap, .func (.func 42) #[] #[.pointer (some ⟨bc, 0, none⟩)]] w fun e w' => (∃ v, e = .returned (.tuple #[.pointer none, .bool v])) ∧ Old w w' := by
  have HC := hide (idx48 p xs bc ad b off cap w h hl hc (-1) hr)
  clear h hc hr
  by_cases hz : xs.length = 0
  · have n0 : ((xs.length : Int) == 0) = true := by rw [beq_iff_eq]; omega
    clear hz
    go_enter Try.func41, Try.ntmps41
    go_wp2
    go_ret2
    exact ⟨⟨_, rfl⟩, Old.refl w⟩
  · have n0 : ((xs.length : Int) == 0) = false := by rw [beq_eq_false_iff_ne]; omega
    clear hz
    go_enter Try.func41, Try.ntmps41
    go_wp2_with (go_at_call 48; refine HC.out.mono ?_; rintro e w3 ⟨rfl, ho3⟩; have HO3 := hide ho3; clear ho3)
    go_ret2
    exact ⟨⟨_, rfl⟩, HO3.out⟩

set_option maxRecDepth 100000 in
set_option maxHeartbeats 3200000 in
theorem choose36 (p : NS → Bool) (xs : List NS) (ba bc : Nat) (ad : Option Addr) (b off cap : Nat) (w : World) (h : Row w 5 NS.cells xs ad b off) (hl : xs.length ≤ 1048576)
    (hc : ∀ x ∈ xs, ∀ W v, Old w W → p x = v → Calls Try.prog 37 #[.agg x.cells, .pointer (some ⟨ba, 0, none⟩), .pointer (some ⟨bc, 0, none⟩)] W fun e w' => e = .returned (.bool v) ∧ Old W w') (k : Nat) (hr : idx p xs = k) :
    Calls Try.prog 36 #[.slice ad xs.length cap, .func (.func 37) #[] #[.pointer (some ⟨ba, 0, none⟩), .pointer (some ⟨bc, 0, none⟩)]] w fun e w' => (∃ v, e = .returned (.tuple #[.pointer (some ⟨b, off + k * 5, none⟩), .bool v])) ∧ Old w w' := by
  have HC := hide (idx46 p xs ba bc ad b off cap w h hl hc k hr)
  have hk := idx_lt hr
  have i1 : (k : Int) < xs.length := by omega
  have n0 : ((xs.length : Int) == 0) = false := by rw [beq_eq_false_iff_ne]; omega
  obtain rfl := h.at_ (by omega)
  clear h hc hr
  go_enter Try.func36, Try.ntmps36
  go_wp2_with (go_at_call 46; refine HC.out.mono ?_; rintro e w3 ⟨rfl, ho3⟩; have HO3 := hide ho3; clear ho3)
  go_ret2
  exact ⟨⟨_, rfl⟩, HO3.out⟩
set_option maxRecDepth 100000 in
set_option maxHeartbeats 3200000 in
theorem choose36n (p : NS → Bool) (xs : List NS) (ba bc : Nat) (ad : Option Addr) (b off cap : Nat) (w : World) (h : Row w 5 NS.cells xs ad b off) (hl : xs.length ≤ 1048576)
    (hc : ∀ x ∈ xs, ∀ W v, Old w W → p x = v → Calls Try.prog 37 #[.agg x.cells, .pointer (some ⟨ba, 0, none⟩), .pointer (some ⟨bc, 0, none⟩)] W fun e w' => e = .returned (.bool v) ∧ Old W w') (hr : idx p xs = -1) :
    Calls Try.prog 36 #[.slice ad xs.length cap, .func (.func 37) #[] #[.pointer (some ⟨ba, 0, none⟩), .pointer (some ⟨bc, 0, none⟩)]] w fun e w' => (∃ v, e = .returned (.tuple #[.pointer none, .bool v])) ∧ Old w w' := by
  have HC := hide (idx46 p xs ba bc ad b off cap w h hl hc (-1) hr)
  clear h hc hr
  by_cases hz : xs.length = 0
  · have n0 : ((xs.length : Int) == 0) = true := by rw [beq_iff_eq]; omega
    clear hz
    go_enter Try.func36, Try.ntmps36
    go_wp2
    go_ret2
    exact ⟨⟨_, rfl⟩, Old.refl w⟩
  · have n0 : ((xs.length : Int) == 0) = false := by rw [beq_eq_false_iff_ne]; omega
    clear hz
    go_enter Try.func36, Try.ntmps36
    go_wp2_with (go_at_call 46; refine HC.out.mono ?_; rintro e w3 ⟨rfl, ho3⟩; have HO3 := hide ho3; clear ho3)
    go_ret2
    exact ⟨⟨_, rfl⟩, HO3.out⟩

theorem type24 (w : World) : Calls Try.prog 24 #[.string ⟨#[]⟩] w fun e w' => e = .returned (.string ⟨#[100, 110, 110]⟩) ∧ w' = w := by
  go_enter Try.func24, Try.ntmps24
  go_wp2
  go_ret
  exact ⟨rfl, rfl⟩
theorem type25 (w : World) : Calls Try.prog 25 #[.agg (ns5 0 0 0 0 false)] w fun e w' => e = .returned (.string ⟨#[115, 45, 110, 115, 115, 97, 105]⟩) ∧ Old w w' := by
  go_enter Try.func25, Try.ntmps25
  go_wp2
  go_ret
  exact ⟨rfl, (Old.refl w).alloc _⟩
end Go.Proofs.Qxb6609239a.R
