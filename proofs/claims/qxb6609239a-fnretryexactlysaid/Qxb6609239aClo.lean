import Derived.Test.Qxb6609239aAtt
import Derived.Deep.RegionHeld3
namespace Go.Proofs.Qxb6609239a.R
open Go.RowKit
set_option linter.unusedVariables false
attribute [local go_sem ↓] Go.wp_at_zero Go.wp_at_succ
theorem neq54 (p : Option (Nat × Nat)) (w : World) : (binOp .neq 54 (ptr p) (.pointer none)).run Try.prog w = .ok (.bool p.isSome) w := by
  cases p <;> kernel_rfl
theorem neq55 (p : Option (Nat × Nat)) (w : World) : (binOp .neq 55 (ptr p) (.pointer none)).run Try.prog w = .ok (.bool p.isSome) w := by
  cases p <;> kernel_rfl
set_option maxRecDepth 100000 in
set_option maxHeartbeats 3200000 in
theorem clo43 (a : Nat × TR) (d : ByteArray) (bn : Nat) (w : World) (h : AOK w a) (hn : w.cell? ⟨bn, 0, none⟩ = some (.string d)) (hs : a.2.dn.size ≤ 1048576) (hd : d.size ≤ 1048576) (v : Bool) (hv : askD a.2 d = v) :
    Calls Try.prog 43 #[.pointer (some ⟨a.1, 2, none⟩), .pointer (some ⟨bn, 0, none⟩)] w fun e w' => e = .returned (.bool v) ∧ Old w w' := by
  obtain ⟨g, t⟩ := a
  have HV := hide hv
  have x4 : w.cell? ⟨g, 4, none⟩ = some (ptr t.pd) := h.cell 4 _ rfl
  have T := h.tok
  dsimp only at hs
  clear hv h
  cases hpd : t.pd with
  | none =>
    rw [hpd] at x4
    unfold ptr at x4
    have HF : Hid (false = v) := hide (by rw [← HV.out]; simp [askD, hpd])
    clear T hpd
    go_enter Try.func43, Try.ntmps43
    go_wp2
    go_quiet (fail)
    go_wp2
    go_ret
    exact ⟨ret_bool HF.out, (Old.refl w).drewN _⟩
  | some q =>
    obtain ⟨qb, qo⟩ := q
    have xd := T.d qb qo hpd
    dsimp only at xd
    rw [hpd] at x4
    unfold ptr at x4
    have HQ : Hid (decide (fold t.dn = fold d) = v) := hide (by rw [← HV.out]; simp [askD, hpd])
    clear T hpd
    go_enter Try.func43, Try.ntmps43
    go_wp2
    go_quiet ((go_at_call 44; exact Calls.quiet_of (same44 t.dn d _ hs hd v HQ.out)))
    go_wp2
    go_ret
    exact ⟨rfl, (Old.refl w).drewN _⟩
set_option maxRecDepth 100000 in
set_option maxHeartbeats 3200000 in
theorem clo39 (a : Nat × TR) (n : NS) (bn : Nat) (w : World) (h : AOK w a) (hn : ∀ f v, n.cells[f]? = some v → w.cell? ⟨bn, f, none⟩ = some v) (v : Bool) (hv : askN a.2 n = v) :
    Calls Try.prog 39 #[.pointer (some ⟨a.1, 2, none⟩), .pointer (some ⟨bn, 0, none⟩)] w fun e w' => e = .returned (.bool v) ∧ Old w w' := by
  obtain ⟨g, t⟩ := a
  have HV := hide hv
  have x3 : w.cell? ⟨g, 3, none⟩ = some (ptr t.ps) := h.cell 3 _ rfl
  have T := h.tok
  clear hv h
  cases hps : t.ps with
  | none =>
    rw [hps] at x3
    unfold ptr at x3
    have HF : Hid (false = v) := hide (by rw [← HV.out]; simp [askN, hps])
    clear T hps hn
    go_enter Try.func39, Try.ntmps39
    go_wp2
    go_quiet (fail)
    go_wp2
    go_ret
    exact ⟨ret_bool HF.out, (Old.refl w).drewN _⟩
  | some q =>
    obtain ⟨qb, qo⟩ := q
    have HT := hide T.n
    have HN := hide hn
    have HPS := hide hps
    rw [hps] at x3
    unfold ptr at x3
    have HK : Hid (∀ W : World, Old w W → (W.cell? ⟨g, 3, none⟩ = some (.pointer (some ⟨qb, qo, none⟩)) ∧ W.cell? ⟨qb, qo, none⟩ = some (.int .u8 t.n.a) ∧ W.cell? ⟨qb, qo + 1, none⟩ = some (.int .u8 t.n.b) ∧ W.cell? ⟨qb, qo + 2, none⟩ = some (.int .u8 t.n.c) ∧ W.cell? ⟨qb, qo + 3, none⟩ = some (.int .u8 t.n.d) ∧ W.cell? ⟨qb, qo + 4, none⟩ = some (.bool t.n.h) ∧ W.cell? ⟨bn, 0, none⟩ = some (.int .u8 n.a) ∧ W.cell? ⟨bn, 1, none⟩ = some (.int .u8 n.b) ∧ W.cell? ⟨bn, 2, none⟩ = some (.int .u8 n.c) ∧ W.cell? ⟨bn, 3, none⟩ = some (.int .u8 n.d) ∧ W.cell? ⟨bn, 4, none⟩ = some (.bool n.h))) := hide fun W ho => ⟨ho.cell x3, ho.cell (T.n qb qo hps 0 _ rfl), ho.cell (T.n qb qo hps 1 _ rfl), ho.cell (T.n qb qo hps 2 _ rfl), ho.cell (T.n qb qo hps 3 _ rfl), ho.cell (T.n qb qo hps 4 _ rfl), ho.cell (hn 0 _ rfl), ho.cell (hn 1 _ rfl), ho.cell (hn 2 _ rfl), ho.cell (hn 3 _ rfl), ho.cell (hn 4 _ rfl)⟩
    have HQ : Hid (sameN t.n n = v) := hide (by rw [← HV.out]; simp [askN, hps])
    clear T hps hn x3
    go_enter Try.func39, Try.ntmps39
    go_wp2
    go_region_held3 (fun W => W.cell? ⟨g, 3, none⟩ = some (.pointer (some ⟨qb, qo, none⟩)) ∧ W.cell? ⟨qb, qo, none⟩ = some (.int .u8 t.n.a) ∧ W.cell? ⟨qb, qo + 1, none⟩ = some (.int .u8 t.n.b) ∧ W.cell? ⟨qb, qo + 2, none⟩ = some (.int .u8 t.n.c) ∧ W.cell? ⟨qb, qo + 3, none⟩ = some (.int .u8 t.n.d) ∧ W.cell? ⟨qb, qo + 4, none⟩ = some (.bool t.n.h) ∧ W.cell? ⟨bn, 0, none⟩ = some (.int .u8 n.a) ∧ W.cell? ⟨bn, 1, none⟩ = some (.int .u8 n.b) ∧ W.cell? ⟨bn, 2, none⟩ = some (.int .u8 n.c) ∧ W.cell? ⟨bn, 3, none⟩ = some (.int .u8 n.d) ∧ W.cell? ⟨bn, 4, none⟩ = some (.bool n.h))
      (first | exact HK.out _ (Old.refl w).drew | exact HK.out _ HOO.out)
      (first | (go_at_call 40; refine (same40 t.n n _ v HQ.out).mono ?_; rintro e w1 ⟨rfl, ho'⟩; have HOO := hide ho'.of_drew; clear ho'))
    all_goals
      go_wp2
      go_ret
      exact ⟨rfl, HOO.out⟩
end Go.Proofs.Qxb6609239a.R
