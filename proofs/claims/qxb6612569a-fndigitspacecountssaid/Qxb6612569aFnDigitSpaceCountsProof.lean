/-
  THE PROOF OF 'Rows.FnDigitSpaceCountsSaid', on the shell that proof-skeleton.mjs wrote for this function.
-/
import Derived.Test.Qxb6612569aRows
import Derived.WalkKit
import Derived.ProofKit
import Derived.OpenShut
import Derived.ShutString
namespace Go.Proofs.Qxb6612569a.fnDigitSpaceCounts
open Go.ChangeShapes Go.WideShapes Go.ChangeAt Go.RowKit
open Go.ChangeMaps (open_string shut_string)
set_option linter.unusedVariables false      -- a walk need not use every 'w<i>' (that an integer argument fits its kind)

theorem own : ownKnob Try.prog.godebug = none := by kernel_rfl

/-! ### The plain functions -/
def dg (n : Int) : Bool := decide (48 ≤ n ∧ n ≤ 57)
def sp (n : Int) : Bool := decide (n = 32 ∨ n = 9 ∨ n = 10 ∨ n = 13)
/-- digits among the bytes 0 .. k-1 -/
def D (k : Int) : Int := if k ≤ 48 then 0 else if 58 ≤ k then 10 else k - 48
/-- spaces among the bytes 0 .. k-1 -/
def S (k : Int) : Int := (if 10 ≤ k then 1 else 0) + (if 11 ≤ k then 1 else 0) + (if 14 ≤ k then 1 else 0) + (if 33 ≤ k then 1 else 0)

theorem D_step (k : Int) : D (k + 1) = D k + if dg k then 1 else 0 := by
  unfold D dg
  by_cases h : 48 ≤ k ∧ k ≤ 57
  · rw [decide_eq_true h]; simp only [if_true]; split <;> split <;> (try split) <;> (try split) <;> omega
  · rw [decide_eq_false h]; simp only [Bool.false_eq_true, if_false]; split <;> split <;> (try split) <;> (try split) <;> omega
theorem S_step (k : Int) : S (k + 1) = S k + if sp k then 1 else 0 := by
  unfold S sp
  by_cases h : k = 32 ∨ k = 9 ∨ k = 10 ∨ k = 13
  · rw [decide_eq_true h]; rcases h with rfl | rfl | rfl | rfl <;> rfl
  · rw [decide_eq_false h]; simp only [Bool.false_eq_true, if_false]
    have e1 : (10 ≤ k + 1) = (10 ≤ k) := by apply propext; omega
    have e2 : (11 ≤ k + 1) = (11 ≤ k) := by apply propext; omega
    have e3 : (14 ≤ k + 1) = (14 ≤ k) := by apply propext; omega
    have e4 : (33 ≤ k + 1) = (33 ≤ k) := by apply propext; omega
    simp only [e1, e2, e3, e4]; omega
theorem D_bd (k : Int) : 0 ≤ D k ∧ D k ≤ 10 := by unfold D; split <;> (try split) <;> omega
theorem S_bd (k : Int) : 0 ≤ S k ∧ S k ≤ 4 := by unfold S; split <;> split <;> split <;> split <;> omega
theorem dg_sp (k : Int) (h : dg k = true) : sp k = false := by
  unfold dg at h; unfold sp; have := of_decide_eq_true h; exact decide_eq_false (by omega)

/-! ### The callees -/
theorem hide {p : Prop} (h : p) : Hid p := h
theorem ret_int {k : IntKind} {a b : Int} (h : a = b) : Ending.returned (.int k a) = .returned (.int k b) := by rw [h]
theorem ret_bool {a b : Bool} (h : a = b) : Ending.returned (.bool a) = .returned (.bool b) := by rw [h]
theorem isDigit_calls (n : Int) (w : World) :
    Calls Try.prog 22 #[.int .u8 n] w fun e w' => e = .returned (.bool (dg n)) ∧ w' = w := by
  by_cases h1 : 48 ≤ n
  · by_cases h2 : n ≤ 57
    · have H : Hid (true = dg n) := hide (by unfold dg; rw [decide_eq_true ⟨h1, h2⟩])
      go_enter Try.func22, Try.ntmps22
      go_wp2
      go_ret
      exact ⟨ret_bool H.out, rfl⟩
    · have H : Hid (false = dg n) := hide (by unfold dg; rw [decide_eq_false (by omega)])
      go_enter Try.func22, Try.ntmps22
      go_wp2
      go_ret
      exact ⟨ret_bool H.out, rfl⟩
  · have H : Hid (false = dg n) := hide (by unfold dg; rw [decide_eq_false (by omega)])
    go_enter Try.func22, Try.ntmps22
    go_wp2
    go_ret
    exact ⟨ret_bool H.out, rfl⟩
theorem isSpace_calls (n : Int) (w : World) :
    Calls Try.prog 23 #[.int .u8 n] w fun e w' => e = .returned (.bool (sp n)) ∧ w' = w := by
  by_cases h1 : n = 32
  · subst h1
    go_enter Try.func23, Try.ntmps23
    go_wp2
    go_ret
    exact ⟨rfl, rfl⟩
  by_cases h2 : n = 9
  · subst h2
    go_enter Try.func23, Try.ntmps23
    go_wp2
    go_ret
    exact ⟨rfl, rfl⟩
  by_cases h3 : n = 10
  · subst h3
    go_enter Try.func23, Try.ntmps23
    go_wp2
    go_ret
    exact ⟨rfl, rfl⟩
  by_cases h4 : n = 13
  · subst h4
    go_enter Try.func23, Try.ntmps23
    go_wp2
    go_ret
    exact ⟨rfl, rfl⟩
  have H : Hid (false = sp n) := hide (by unfold sp; rw [decide_eq_false (by omega)])
  have e1 : (n == 32) = false := beq_eq_false_iff_ne.2 h1
  have e2 : (n == 9) = false := beq_eq_false_iff_ne.2 h2
  have e3 : (n == 10) = false := beq_eq_false_iff_ne.2 h3
  have e4 : (n == 13) = false := beq_eq_false_iff_ne.2 h4
  go_enter Try.func23, Try.ntmps23
  go_wp2
  go_ret
  exact ⟨ret_bool H.out, rfl⟩
theorem zzDigit_calls (n : Int) (w : World) :
    Calls Try.prog 7 #[.int .u8 n] w fun e w' => e = .returned (.bool (dg n)) ∧ w' = w := by
  go_enter Try.func7, Try.ntmps7
  go_wp2_with (go_at_call 22; refine (isDigit_calls _ _).mono ?_; rintro e w' ⟨rfl, rfl⟩)
  go_ret
  exact ⟨rfl, rfl⟩
theorem zzSpace_calls (n : Int) (w : World) :
    Calls Try.prog 8 #[.int .u8 n] w fun e w' => e = .returned (.bool (sp n)) ∧ w' = w := by
  go_enter Try.func8, Try.ntmps8
  go_wp2_with (go_at_call 23; refine (isSpace_calls _ _).mono ?_; rintro e w' ⟨rfl, rfl⟩)
  go_ret
  exact ⟨rfl, rfl⟩
theorem digitsUpTo_calls (n : Int) (h0 : 0 ≤ n) (h1 : n ≤ 255) (w : World) :
    Calls Try.prog 9 #[.int .u8 n] w fun e w' => e = .returned (.int .i64 (D (n + 1))) ∧ w' = w := by
  by_cases a : n - 47 < 0
  · have H : Hid (0 = D (n + 1)) := hide (by unfold D; rw [if_pos (by omega)])
    go_enter Try.func9, Try.ntmps9
    go_wp2
    go_ret
    exact ⟨ret_int H.out, rfl⟩
  · by_cases b : 10 < n - 47
    · have H : Hid (10 = D (n + 1)) := hide (by unfold D; rw [if_neg (by omega), if_pos (by omega)])
      go_enter Try.func9, Try.ntmps9
      go_wp2
      go_ret
      exact ⟨ret_int H.out, rfl⟩
    · have H : Hid (n - 47 = D (n + 1)) := hide (by unfold D; split <;> (try split) <;> omega)
      go_enter Try.func9, Try.ntmps9
      go_wp2
      go_ret
      exact ⟨ret_int H.out, rfl⟩
theorem S_val (n : Int) (r : Int) (h : r = (if 9 ≤ n then 1 else 0) + (if 10 ≤ n then 1 else 0) + (if 13 ≤ n then 1 else 0) + (if 32 ≤ n then 1 else 0)) : r = S (n + 1) := by
  have e1 : (10 ≤ n + 1) = (9 ≤ n) := by apply propext; omega
  have e2 : (11 ≤ n + 1) = (10 ≤ n) := by apply propext; omega
  have e3 : (14 ≤ n + 1) = (13 ≤ n) := by apply propext; omega
  have e4 : (33 ≤ n + 1) = (32 ≤ n) := by apply propext; omega
  rw [h]; simp only [S, e1, e2, e3, e4]
theorem spacesUpTo_calls (n : Int) (h0 : 0 ≤ n) (h1 : n ≤ 255) (w : World) :
    Calls Try.prog 10 #[.int .u8 n] w fun e w' => e = .returned (.int .i64 (S (n + 1))) ∧ w' = w := by
  by_cases a : 9 ≤ n <;> by_cases b : 10 ≤ n <;> by_cases c : 13 ≤ n <;> by_cases d : 32 ≤ n <;> first | (exfalso; omega) | skip
  all_goals
    have H := hide (S_val n _ rfl)
    simp only [a, b, c, d, if_true, if_false] at H
    go_enter Try.func10, Try.ntmps10
    go_wp2
    go_ret
    exact ⟨ret_int H.out, rfl⟩

/-! ### STEP 1: THE WALK -/
theorem u8_bd (a0 : Int) (w0 : (Lit.int .u8 a0).wf = true) : 0 ≤ a0 ∧ a0 ≤ 255 := by
  simp [Lit.wf] at w0
  have e1 : IntKind.u8.min = 0 := rfl
  have e2 : IntKind.u8.max = 255 := rfl
  omega
theorem walk (a0 : Int) (w0 : (Lit.int .u8 a0).wf = true) (w : World) :
    Calls Try.prog 3 #[.int .u8 a0] w fun e w' => e = .returned (.bool true) ∧ Grown w w' := by
  obtain ⟨hb0, hb1⟩ := u8_bd a0 w0
  clear w0
  go_enter Try.func3, Try.ntmps3
  go_wp2_with fail
  go_loop [3, 4, 5] (fun d s b => ∃ k : Nat, (k : Int) ≤ a0 + 1 ∧ b = .int .i64 k ∧ d = .int .i64 (D k) ∧ s = .int .i64 (S k)) (fun _ _ b => (256 - intOf b).toNat)
  case atStart => exact ⟨0, by omega, rfl, rfl, rfl⟩
  case round =>
    obtain ⟨k, hk, rfl, rfl, rfl⟩ := hrel
    obtain ⟨d0, d1⟩ := D_bd k
    obtain ⟨s0, s1⟩ := S_bd k
    by_cases hlt : (k : Int) ≤ a0
    · have HD := hide (D_step k)
      have HS := hide (S_step k)
      have HX := hide (dg_sp k)
      cases hd : dg k <;> cases hs : sp k
      case' true.true => exact absurd (HX.out hd) (by rw [hs]; decide)
      all_goals
        rw [hd] at HD; rw [hs] at HS
        simp only [if_true, Bool.false_eq_true, if_false, Int.add_zero] at HD HS
        go_wp2_with (first | (go_at_call 7; refine (zzDigit_calls _ _).mono ?_; rintro e w' ⟨rfl, rfl⟩) | (go_at_call 8; refine (zzSpace_calls _ _).mono ?_; rintro e w' ⟨rfl, rfl⟩))
        exact ⟨⟨k + 1, by omega, by go_num, by rw [show ((k + 1 : Nat) : Int) = (k : Int) + 1 from by omega, HD.out], by rw [show ((k + 1 : Nat) : Int) = (k : Int) + 1 from by omega, HS.out]⟩, by simp [intOf]; omega⟩
    · have hk1 : (k : Int) = a0 + 1 := by omega
      rw [hk1]
      have hd : (D (a0 + 1) == D (a0 + 1)) = true := by simp
      have hs : (S (a0 + 1) == S (a0 + 1)) = true := by simp
      go_wp2_with (first | (go_at_call 9; refine (digitsUpTo_calls _ hb0 hb1 _).mono ?_; rintro e w' ⟨rfl, rfl⟩) | (go_at_call 10; refine (spacesUpTo_calls _ hb0 hb1 _).mono ?_; rintro e w' ⟨rfl, rfl⟩))
      go_ret
      exact ⟨rfl, by repeat (first | exact Grown.refl _ | apply Grown.drew | apply Grown.alloc)⟩

/-! ### THE ROW's STEP: WRITTEN OUT: LEAVE IT -/
set_option maxRecDepth 100000 in
theorem lifted (os : Os) (started : os.Started) (H : Type) (enc : TypeId × Value → H) :
    ReturnsInHanded {} Try.checked os 3 .any (Rows.fnDigitSpaceCountsSpec.pre6 enc Try.prog Try.f3 Rows.fnDigitSpaceCountsRow.domain false) (Rows.fnDigitSpaceCountsSpec.post enc Try.prog Try.f3 false true false false) := by
  refine returnsInHanded_of_change (C := Try.checked) own started (by kernel_rfl) Try.func3
    (ChangeSpec.witness6 (enc := enc) (C := Try.checked) false ⟨#[], #[.int .u8 0], []⟩ 8 (by kernel_rfl) (by kernel_rfl) (by kernel_rfl) (by kernel_rfl)) ?_
  intro W base args ds gs before hval0 hW hcnd _
  have hval : ∀ (j : Nat) t v, Try.f3.params[j]? = some t → args[j]? = some v → Value.okWide Try.prog W .any base t v := hval0
  have hW' := hW
  obtain ⟨p, q, hA0, hV, rfl, hfz, hnd⟩ := hW
  have hA : DataW.TrodAll enc Try.prog W 0 (fun _ => true) true Try.f3.params.toList args.toList ds p := hA0
  rw [Try.params3] at hA hval
  obtain ⟨v0, vs0, d0, ds0, p0, q0, hargs, rfl, rfl, h0, r0⟩ := trodAll_cons hA
  obtain ⟨rfl, rfl, rfl⟩ := trodAll_nil r0
  obtain rfl : args = #[v0] := by cases args; simp_all
  obtain ⟨rfl, rfl⟩ := trodVars_none hV
  obtain ⟨a0, rfl, rfl, rfl, w0⟩ := open_int Try.underlying5 (hval 0 5 v0 rfl rfl) h0
  clear hA0 hval0
  simp only [List.append_nil] at hW'
  refine (walk a0 w0 W).mono fun e W' ⟨he, hg⟩ => ?_
  subst he
  exact ⟨_, rfl, post_of_same (pa := []) (pv := []) hW' (fun _ _ _ => (trodAll_cons_mk (shut_bool Try.underlying4 _) trodAll_mk0)) (fun sp _ => (trodAll_cons_mk (shut_int Try.underlying5 w0) trodAll_mk0)) (fun _ _ => rfl) rfl
    (hg.frame _) hg.2.1 (ok_one (by kernel_rfl) rfl (okWide_bool_mk Try.underlying4 _))⟩

theorem over : Rows.fnDigitSpaceCountsRow.holds Try.pinned (OpenSpec.ofChange Rows.fnDigitSpaceCountsSpec) :=
  OpenClaim.holds_of_wide 3 Try.f3 rfl rfl rfl rfl rfl rfl rfl ⟨rfl, rfl, rfl, rfl, rfl⟩ rfl rfl rfl rfl rfl (by kernel_rfl) Try.func3 (by kernel_rfl)
    (of_decide_eq_true (by kernel_rfl)) (by unfold Func.isWrapper; first | (rw [if_pos (by decide +kernel)]; kernel_rfl) | (rw [if_neg (by decide +kernel)]; exact ⟨rfl, rfl⟩))
    (fun os started H enc _ => lifted os started H enc)

/-- ████ THE STATEMENT ████ -/
theorem proved : Rows.FnDigitSpaceCountsSaid :=
  over
#print axioms proved
end Go.Proofs.Qxb6612569a.fnDigitSpaceCounts
