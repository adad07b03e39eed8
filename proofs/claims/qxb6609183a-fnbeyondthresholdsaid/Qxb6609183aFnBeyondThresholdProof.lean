/-
  THE PROOF OF 'Rows.FnBeyondThresholdSaid', on the shell that proof-skeleton.mjs wrote for this function.
-/
import Derived.Test.Qxb6609183aRows
import Derived.WalkKit
import Derived.ProofKit
import Derived.OpenShut
import Derived.ShutString
namespace Go.Proofs.Qxb6609183a.fnBeyondThreshold
open Go.ChangeShapes Go.WideShapes Go.ChangeAt Go.RowKit
open Go.ChangeMaps (open_string shut_string)
set_option linter.unusedVariables false      -- a walk need not use every 'w<i>' (that an integer argument fits its kind)

theorem own : ownKnob Try.prog.godebug = none := by kernel_rfl

/-! ### STEP 1: the callees' contracts and the walk -/
set_option maxRecDepth 10000 in
theorem build_ex (f : Int) : ∃ C : Array Value, (∀ w, (Instr.build 53 #[(36, .int .u64 f)]).run Try.prog w = .ok (.agg C) w) ∧ C[47]? = some (.int .u64 f) :=
  ⟨((((Try.prog.info? 53).bind (·.zero)).getD (.int .u64 0)).cells).setIfInBounds 47 (.int .u64 f), fun w => by kernel_rfl, by kernel_rfl⟩
theorem wp_build {P : Program} {d : Option Nat} {ty : TypeId} {pos : String} {after : Array Edge} {g : Option (Nat × Bool)} {t : TypeId} {parts : Array (Nat × Operand)} {a : Act} {w : World} {K : Act → World → Prop} {Q : Exit → Act → World → Prop} {v : Value} {ps : Array (Nat × Value)}
    (h : (Instr.build t ps).run P w = .ok v w) (hp : (parts.map fun (i, x) => (i, a.eval x)) = ps) (hk : K (a.put d v) w) :
    Oper.wp P ⟨d, .build t parts, ty, pos, after, g⟩ a w K Q := by
  unfold Oper.wp
  have e : (execOp a.eval ⟨d, .build t parts, ty, pos, after, g⟩).run P w = .ok (.value v) w := by
    simp only [execOp, hp, Sem.run_bind, h, Result.andThen_ok, Sem.run_pure]
  rw [e]
  exact hk
theorem hide {p : Prop} (h : p) : Hid p := h
theorem ret_bool {a b : Bool} (h : a = b) : Ending.returned (.bool a) = .returned (.bool b) := by rw [h]
set_option maxRecDepth 10000 in
set_option maxHeartbeats 1000000 in
theorem nodeAt_calls (f : Int) (w : World) :
    Calls Try.prog 4 #[.int .u64 f] w fun e w' => e = .returned (.pointer (some ⟨w.heap.size, 0, none⟩)) ∧ Grown w w' ∧ w'.cell? ⟨w.heap.size, 47, none⟩ = some (.int .u64 f) := by
  obtain ⟨C, hb, hc⟩ := build_ex f
  go_enter Try.func4, Try.ntmps4
  go_wp2_with fail
  refine wp_build (hb w) (by simp [Act.eval]) ?_
  go_wp2_with fail
  go_ret
  refine ⟨rfl, (Grown.refl _).alloc _ _, ?_⟩
  simp [go_sem, hc]
def bey (f s : Int) : Bool := decide (f ≤ s ∧ 65536 ≤ s - f)
theorem beyond_calls (f s : Int) (b : Nat) (w : World) (hc : w.cell? ⟨b, 47, none⟩ = some (.int .u64 f)) (h0 : 0 ≤ f) (h1 : s ≤ 18446744073709551615) :
    Calls Try.prog 6 #[.pointer (some ⟨b, 0, none⟩), .int .u64 s] w fun e w' => e = .returned (.bool (bey f s)) ∧ w' = w := by
  by_cases hlt : f ≤ s
  · by_cases hx : 65536 ≤ s - f
    · have H : Hid (true = bey f s) := hide (by unfold bey; rw [decide_eq_true ⟨hlt, hx⟩])
      go_enter Try.func6, Try.ntmps6
      go_wp2
      go_ret
      exact ⟨ret_bool H.out, rfl⟩
    · have H : Hid (false = bey f s) := hide (by unfold bey; rw [decide_eq_false (by omega)])
      go_enter Try.func6, Try.ntmps6
      go_wp2
      go_ret
      exact ⟨ret_bool H.out, rfl⟩
  · have H : Hid (false = bey f s) := hide (by unfold bey; rw [decide_eq_false (by omega)])
    go_enter Try.func6, Try.ntmps6
    go_wp2
    go_ret
    exact ⟨ret_bool H.out, rfl⟩
theorem zzBeyond_calls (f s : Int) (b : Nat) (w : World) (hc : w.cell? ⟨b, 47, none⟩ = some (.int .u64 f)) (h0 : 0 ≤ f) (h1 : s ≤ 18446744073709551615) :
    Calls Try.prog 5 #[.pointer (some ⟨b, 0, none⟩), .int .u64 s] w fun e w' => e = .returned (.bool (bey f s)) ∧ w' = w := by
  go_enter Try.func5, Try.ntmps5
  go_wp2_with (go_at_call 6; refine (beyond_calls f _ _ _ hc h0 h1).mono ?_; rintro e w' ⟨rfl, rfl⟩)
  go_ret
  exact ⟨rfl, rfl⟩
theorem u64_bd (a0 : Int) (w0 : (Lit.int .u64 a0).wf = true) : 0 ≤ a0 ∧ a0 ≤ 18446744073709551615 := by
  simp [Lit.wf] at w0
  have e1 : IntKind.u64.min = 0 := rfl
  have e2 : IntKind.u64.max = 18446744073709551615 := rfl
  omega
set_option maxRecDepth 10000 in
theorem walk (a0 : Int) (a1 : Int) (w0 : (Lit.int .u64 a0).wf = true) (w1 : (Lit.int .u64 a1).wf = true) (w : World) :
    Calls Try.prog 3 #[.int .u64 a0, .int .u64 a1] w fun e w' => e = .returned (.bool true) ∧ Grown w w' := by
  obtain ⟨f0, f1⟩ := u64_bd a0 w0
  obtain ⟨s0, s1⟩ := u64_bd a1 w1
  clear w0 w1
  by_cases hz : a0 = 0
  · subst hz
    go_enter Try.func3, Try.ntmps3
    go_wp2
    go_ret
    exact ⟨rfl, Grown.refl _⟩
  have hz' : (a0 == 0) = false := beq_eq_false_iff_ne.2 hz
  have f0' : 1 ≤ a0 := by omega
  clear hz
  cases hb : bey a0 a1
  · by_cases hM : 18446744073709486079 < a0
    · have hm : bey a0 18446744073709551615 = false := by unfold bey; exact decide_eq_false (by omega)
      go_enter Try.func3, Try.ntmps3
      go_wp2_with (first | (go_at_call 4; refine (nodeAt_calls _ _).mono ?_; rintro e w1 ⟨rfl, hg, hc⟩) | (go_at_call 5; refine (zzBeyond_calls a0 _ _ _ hc f0 (by omega)).mono ?_; rintro e w' ⟨rfl, rfl⟩))
      go_ret
      exact ⟨rfl, hg⟩
    · have h1 : bey a0 (a0 + 65536) = true := by unfold bey; exact decide_eq_true (by omega)
      have h2 : bey a0 (a0 + 65536 - 1) = false := by unfold bey; exact decide_eq_false (by omega)
      have h3 : bey a0 (a0 - 1) = false := by unfold bey; exact decide_eq_false (by omega)
      go_enter Try.func3, Try.ntmps3
      go_wp2_with (first | (go_at_call 4; refine (nodeAt_calls _ _).mono ?_; rintro e w1 ⟨rfl, hg, hc⟩) | (go_at_call 5; refine (zzBeyond_calls a0 _ _ _ hc f0 (by omega)).mono ?_; rintro e w' ⟨rfl, rfl⟩))
      go_ret
      exact ⟨rfl, hg⟩
  · have hM : a0 ≤ 18446744073709486079 := by unfold bey at hb; have := of_decide_eq_true hb; omega
    have h1 : bey a0 (a0 + 65536) = true := by unfold bey; exact decide_eq_true (by omega)
    have h2 : bey a0 (a0 + 65536 - 1) = false := by unfold bey; exact decide_eq_false (by omega)
    have h3 : bey a0 (a0 - 1) = false := by unfold bey; exact decide_eq_false (by omega)
    by_cases hs : a1 = 18446744073709551615
    · have hs' : (a1 != 18446744073709551615) = false := by rw [hs]; rfl
      clear hs
      go_enter Try.func3, Try.ntmps3
      go_wp2_with (first | (go_at_call 4; refine (nodeAt_calls _ _).mono ?_; rintro e w1 ⟨rfl, hg, hc⟩) | (go_at_call 5; refine (zzBeyond_calls a0 _ _ _ hc f0 (by omega)).mono ?_; rintro e w' ⟨rfl, rfl⟩))
      go_ret
      exact ⟨rfl, hg⟩
    · have hs' : (a1 != 18446744073709551615) = true := by rw [bne_iff_ne]; exact hs
      have h4 : bey a0 (a1 + 1) = true := by unfold bey at hb ⊢; have := of_decide_eq_true hb; exact decide_eq_true (by omega)
      have hs2 : a1 ≤ 18446744073709551614 := by omega
      clear hs
      go_enter Try.func3, Try.ntmps3
      go_wp2_with (first | (go_at_call 4; refine (nodeAt_calls _ _).mono ?_; rintro e w1 ⟨rfl, hg, hc⟩) | (go_at_call 5; refine (zzBeyond_calls a0 _ _ _ hc f0 (by omega)).mono ?_; rintro e w' ⟨rfl, rfl⟩))
      go_ret
      exact ⟨rfl, hg⟩

/-! ### THE ROW's STEP: WRITTEN OUT: LEAVE IT -/
set_option maxRecDepth 100000 in
theorem lifted (os : Os) (started : os.Started) (H : Type) (enc : TypeId × Value → H) :
    ReturnsInHanded {} Try.checked os 3 .any (Rows.fnBeyondThresholdSpec.pre6 enc Try.prog Try.f3 Rows.fnBeyondThresholdRow.domain false) (Rows.fnBeyondThresholdSpec.post enc Try.prog Try.f3 false true false false) := by
  refine returnsInHanded_of_change (C := Try.checked) own started (by kernel_rfl) Try.func3
    (ChangeSpec.witness6 (enc := enc) (C := Try.checked) false ⟨#[], #[.int .u64 0, .int .u64 0], []⟩ 8 (by kernel_rfl) (by kernel_rfl) (by kernel_rfl) (by kernel_rfl)) ?_
  intro W base args ds gs before hval0 hW hcnd _
  have hval : ∀ (j : Nat) t v, Try.f3.params[j]? = some t → args[j]? = some v → Value.okWide Try.prog W .any base t v := hval0
  have hW' := hW
  obtain ⟨p, q, hA0, hV, rfl, hfz, hnd⟩ := hW
  have hA : DataW.TrodAll enc Try.prog W 0 (fun _ => true) true Try.f3.params.toList args.toList ds p := hA0
  rw [Try.params3] at hA hval
  obtain ⟨v0, vs0, d0, ds0, p0, q0, hargs, rfl, rfl, h0, r0⟩ := trodAll_cons hA
  obtain ⟨v1, vs1, d1, ds1, p1, q1, rfl, rfl, rfl, h1, r1⟩ := trodAll_cons r0
  obtain ⟨rfl, rfl, rfl⟩ := trodAll_nil r1
  obtain rfl : args = #[v0, v1] := by cases args; simp_all
  obtain ⟨rfl, rfl⟩ := trodVars_none hV
  obtain ⟨a0, rfl, rfl, rfl, w0⟩ := open_int Try.underlying22 (hval 0 22 v0 rfl rfl) h0
  obtain ⟨a1, rfl, rfl, rfl, w1⟩ := open_int Try.underlying22 (hval 1 22 v1 rfl rfl) h1
  clear hA0 hval0
  simp only [List.append_nil] at hW'
  refine (walk a0 a1 w0 w1 W).mono fun e W' ⟨he, hg⟩ => ?_
  subst he
  exact ⟨_, rfl, post_of_same (pa := []) (pv := []) hW' (fun _ _ _ => (trodAll_cons_mk (shut_bool Try.underlying4 _) trodAll_mk0)) (fun sp _ => (trodAll_cons_mk (shut_int Try.underlying22 w0) (trodAll_cons_mk (shut_int Try.underlying22 w1) trodAll_mk0))) (fun _ _ => rfl) rfl
    (hg.frame _) hg.2.1 (ok_one (by kernel_rfl) rfl (okWide_bool_mk Try.underlying4 _))⟩

theorem over : Rows.fnBeyondThresholdRow.holds Try.pinned (OpenSpec.ofChange Rows.fnBeyondThresholdSpec) :=
  OpenClaim.holds_of_wide 3 Try.f3 rfl rfl rfl rfl rfl rfl rfl ⟨rfl, rfl, rfl, rfl, rfl⟩ rfl rfl rfl rfl rfl (by kernel_rfl) Try.func3 (by kernel_rfl)
    (of_decide_eq_true (by kernel_rfl)) (by unfold Func.isWrapper; first | (rw [if_pos (by decide +kernel)]; kernel_rfl) | (rw [if_neg (by decide +kernel)]; exact ⟨rfl, rfl⟩))
    (fun os started H enc _ => lifted os started H enc)

/-- ████ THE STATEMENT ████ -/
theorem proved : Rows.FnBeyondThresholdSaid :=
  over
#print axioms proved
end Go.Proofs.Qxb6609183a.fnBeyondThreshold
