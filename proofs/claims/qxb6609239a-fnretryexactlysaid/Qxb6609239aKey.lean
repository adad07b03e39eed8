import Derived.Test.Qxb6609239aFold
import Derived.Laws.StructEq
namespace Go.Proofs.Qxb6609239a.R
open Go.RowKit
set_option linter.unusedVariables false
attribute [local go_sem ↓] Go.wp_at_zero Go.wp_at_succ
/-- an S-NSSAI's cells -/
abbrev ns5 (a b c d : Int) (h : Bool) : Array Value := #[.int .u8 a, .int .u8 b, .int .u8 c, .int .u8 d, .bool h]
abbrev key5 (a b c d e : Int) : Array Value := #[.int .u8 a, .int .u8 b, .int .u8 c, .int .u8 d, .int .u8 e]
set_option maxHeartbeats 1000000 in
theorem key32t (a b c d : Int) (w : World) :
    Calls Try.prog 32 #[.agg (ns5 a b c d true)] w fun e w' => e = .returned (.agg (key5 a 1 b c d)) ∧ Old w w' := by
  go_enter Try.func32, Try.ntmps32
  go_wp2
  exact bodyPost_ret (v := .agg (key5 a 1 b c d)) (by simp [results, Try.results32, go_sem]) rfl ⟨rfl, (((Old.refl w).alloc _).alloc _).alloc _⟩
set_option maxHeartbeats 1000000 in
theorem key32f (a b c d : Int) (w : World) :
    Calls Try.prog 32 #[.agg (ns5 a b c d false)] w fun e w' => e = .returned (.agg (key5 a 0 0 0 0)) ∧ Old w w' := by
  go_enter Try.func32, Try.ntmps32
  go_wp2
  exact bodyPost_ret (v := .agg (key5 a 0 0 0 0)) (by simp [results, Try.results32, go_sem]) rfl ⟨rfl, (((Old.refl w).alloc _).alloc _).alloc _⟩
theorem eq49 (a b c a' b' c' : Int) (w : World) : (Op.equalIn 10000 49 (.agg #[.int .u8 a, .int .u8 b, .int .u8 c]) (.agg #[.int .u8 a', .int .u8 b', .int .u8 c'])).run Try.prog w = .ok (a == a' && b == b' && c == c') w := by
  have u5 := Try.underlying5
  have a5 := Try.isAgg5
  have z5 := Try.sizeOf5
  rw [show (10000 : Nat) = 9999 + 1 from rfl, Op.equalIn]
  simp only [Sem.run_bind, run_underlying Try.underlying49, Result.andThen_ok]
  simp only [Std.Legacy.Range.forIn_eq_forIn_range', Std.Legacy.Range.size, Nat.sub_zero, Nat.add_sub_cancel, Nat.div_one, List.range'_succ, List.range'_zero, List.forIn_cons, List.forIn_nil]
  go_simp
  by_cases h1 : a = a' <;> by_cases h2 : b = b' <;> by_cases h3 : c = c' <;> simp [h1, h2, h3]
theorem eq97 (a b c d e a' b' c' d' e' : Int) (w : World) : (Op.equalIn 10000 97 (.agg (key5 a b c d e)) (.agg (key5 a' b' c' d' e'))).run Try.prog w = .ok (a == a' && b == b' && c == c' && d == d' && e == e') w := by
  have u5 := Try.underlying5
  have a5 := Try.isAgg5
  have z5 := Try.sizeOf5
  rw [show (10000 : Nat) = 9999 + 1 from rfl, Op.equalIn]
  simp only [Sem.run_bind, run_underlying Try.underlying97, Result.andThen_ok]
  simp only [Std.Legacy.Range.forIn_eq_forIn_range', Std.Legacy.Range.size, Nat.sub_zero, Nat.add_sub_cancel, Nat.div_one, List.range'_succ, List.range'_zero, List.forIn_cons, List.forIn_nil]
  go_simp
  by_cases h1 : a = a' <;> by_cases h2 : b = b' <;> by_cases h3 : c = c' <;> by_cases h4 : d = d' <;> by_cases h5 : e = e' <;> simp [h1, h2, h3, h4, h5]
attribute [local go_sem] eq49 eq97
structure NS where
  a : Int
  b : Int
  c : Int
  d : Int
  h : Bool
abbrev NS.cells (n : NS) : Array Value := ns5 n.a n.b n.c n.d n.h
/-- the same slice -/
def sameN (n m : NS) : Bool := n.a == m.a && n.h == m.h && (!n.h || (n.b == m.b && n.c == m.c && n.d == m.d))
theorem sameN_comm (n m : NS) : sameN n m = sameN m n := by
  obtain ⟨a, b, c, d, h⟩ := n
  obtain ⟨a', b', c', d', h'⟩ := m
  unfold sameN
  have e : ∀ x y : Int, (x == y) = (y == x) := fun x y => by rw [Bool.eq_iff_iff, beq_iff_eq, beq_iff_eq]; exact ⟨Eq.symm, Eq.symm⟩
  rw [e a a', e b b', e c c', e d d']
  cases h <;> cases h' <;> simp
def kh (h : Bool) : Int := if h then 1 else 0
def kx (h : Bool) (x : Int) : Int := if h then x else 0
theorem key32 (n : NS) (w : World) : Calls Try.prog 32 #[.agg n.cells] w fun e w' => e = .returned (.agg (key5 n.a (kh n.h) (kx n.h n.b) (kx n.h n.c) (kx n.h n.d))) ∧ Old w w' := by
  obtain ⟨a, b, c, d, h⟩ := n
  cases h
  · exact key32f a b c d w
  · exact key32t a b c d w
theorem key_same (n m : NS) : (n.a == m.a && kh n.h == kh m.h && kx n.h n.b == kx m.h m.b && kx n.h n.c == kx m.h m.c && kx n.h n.d == kx m.h m.d) = sameN n m := by
  obtain ⟨a, b, c, d, h⟩ := n
  obtain ⟨a', b', c', d', h'⟩ := m
  unfold sameN kh kx
  cases h <;> cases h' <;> simp
  cases (a == a') <;> simp [Bool.and_assoc]
set_option maxHeartbeats 1000000 in
theorem same40 (n m : NS) (w : World) (v : Bool) (hv : sameN n m = v) :
    Calls Try.prog 40 #[.agg n.cells, .agg m.cells] w fun e w' => e = .returned (.bool v) ∧ Old w w' := by
  obtain ⟨a, b, c, d, h⟩ := n
  obtain ⟨a', b', c', d', h'⟩ := m
  have HV := hide hv
  clear hv
  by_cases ha : a = a'
  · subst ha
    cases h <;> cases h'
    all_goals
      go_enter Try.func40, Try.ntmps40
      go_wp2
      go_ret
      exact ⟨ret_bool (by rw [← HV.out]; simp [sameN]), ((Old.refl w).alloc _).alloc _⟩
  · have hb : (a == a') = false := beq_eq_false_iff_ne.2 ha
    clear ha
    go_enter Try.func40, Try.ntmps40
    go_wp2
    go_ret
    exact ⟨ret_bool (by rw [← HV.out]; simp [sameN, hb]), ((Old.refl w).alloc _).alloc _⟩
set_option maxHeartbeats 1000000 in
theorem fields19 (n : NS) (w : World) : Calls Try.prog 19 #[.agg n.cells, .agg n.cells] w fun e w' => e = .returned (.bool true) ∧ Old w w' := by
  obtain ⟨a, b, c, d, h⟩ := n
  go_enter Try.func19, Try.ntmps19
  go_wp2
  go_ret
  exact ⟨ret_bool (by simp), ((Old.refl w).alloc _).alloc _⟩
end Go.Proofs.Qxb6609239a.R
