import Derived.Test.Qxb6609239aRetry
namespace Go.Proofs.Qxb6609239a.R
open Go.RowKit
set_option linter.unusedVariables false
attribute [local go_sem ↓] Go.wp_at_zero Go.wp_at_succ
abbrev s86 (al : Value) : Array Value := #[al, .slice none 0 0, .bool false, .slice none 0 0, .slice none 0 0, .bool false, .pointer none, .pointer none, .slice none 0 0]
set_option maxRecDepth 100000 in
set_option maxHeartbeats 3200000 in
theorem zz13 (lad sad dad aad : Option Addr) (ll lcap sl scap dl dcap n cap : Nat) (w : World) (Q : Option Addr → World → Prop)
    (hc : Calls Try.prog 30 #[.agg (e89 w.heap.size), .agg (u95 (.slice sad sl scap) (.slice dad dl dcap)), .slice aad n cap] (w.alloc (.cells (s86 (.slice lad ll lcap)) 86)) fun e w' => ∃ q, e = .returned (.pointer q) ∧ Q q w') :
    Calls Try.prog 13 #[.slice lad ll lcap, .slice sad sl scap, .slice dad dl dcap, .slice aad n cap] w fun e w' => ∃ q, e = .returned (.pointer q) ∧ Q q w' := by
  have HC := hide hc
  clear hc
  go_enter Try.func13, Try.ntmps13
  go_wp2_with (go_at_call 30; refine HC.out.mono ?_; rintro e w3 ⟨q, rfl, hq⟩; have HQ := hide hq; clear hq)
  go_ret
  exact ⟨_, rfl, HQ.out⟩
end Go.Proofs.Qxb6609239a.R
