import Derived.Test.Qxb6609239aAsked
import Derived.Test.Qxb6609239aMake
namespace Go.Proofs.Qxb6609239a.R
open Go.RowKit
set_option linter.unusedVariables false
attribute [local go_sem ↓] Go.wp_at_zero Go.wp_at_succ
def RB (w : World) (e : Ending) (w' : World) : Prop := ∃ n : Int, e = .returned (.int .i64 n) ∧ w' = w
set_option maxRecDepth 100000 in
set_option maxHeartbeats 6400000 in
theorem sum12 (al sns : List NS) (ds : List ByteArray) (ts : List TR) (lad sad dad ad : Option Addr) (lcap scap dcap cap db doff b off : Nat) (w : World) (hd : Row w 1 dcl ds dad db doff) (h : Row w 9 TR.cells ts ad b off) (hp : ∀ t ∈ ts, TOK w t) (hld : ds.length ≤ 1048576) (hlt : ts.length ≤ 1048576) :
    Calls Try.prog 12 #[.slice lad al.length lcap, .slice sad sns.length scap, .slice dad ds.length dcap, .slice ad ts.length cap] w fun e w' => RB w e w' := by
  have HD := hide hd
  have HR := hide h
  have HP := hide hp
  clear hd h hp
  have E3 : (0 : Int) ≤ ds.length := by omega
  have E4 : (0 : Int) ≤ ts.length := by omega
  go_enter Try.func12, Try.ntmps12
  go_wp2
  go_loopw [9, 10] (fun n i w' => ∃ (s : Int) (k : Nat), k ≤ ds.length ∧ n = .int .i64 s ∧ i = .int .i64 k ∧ w' = w) (fun _ i _ => ds.length - (intOf i).toNat)
  case atStart => exact ⟨_, 0, by omega, rfl, rfl, by trivial⟩
  case round =>
  obtain ⟨s1, k1, hk1, rfl, rfl, rfl⟩ := hrel
  by_cases hlt1 : k1 < ds.length
  · have i1 : (k1 : Int) < ds.length := by omega
    obtain ⟨x, hx⟩ : ∃ x, ds[k1]? = some x := ⟨_, List.getElem?_eq_getElem hlt1⟩
    obtain rfl := HD.out.at_ (by omega)
    have x0 : wr.cell? ⟨db, doff + k1, none⟩ = some (.string x) := by have := HD.out.cell k1 x hx 0 _ rfl; simpa using this
    clear hx
    go_wp2
    go_roundw
    case rel => exact ⟨_, k1 + 1, by omega, rfl, by go_num, by trivial⟩
    case measure => simp [intOf]; omega
  have i1 : ¬ (k1 : Int) < ds.length := by omega
  go_wp2
  go_loopw [9, 11] (fun n i w' => ∃ (s : Int) (k : Nat), k ≤ ts.length ∧ n = .int .i64 s ∧ i = .int .i64 k ∧ w' = wr) (fun _ i _ => ts.length - (intOf i).toNat)
  case atStart => exact ⟨_, 0, by omega, rfl, rfl, by trivial⟩
  case round =>
  obtain ⟨s2, k2, hk2, rfl, rfl, rfl⟩ := hrel
  by_cases hlt2 : k2 < ts.length
  · have i2 : (k2 : Int) < ts.length := by omega
    obtain ⟨x, hx⟩ : ∃ x, ts[k2]? = some x := ⟨_, List.getElem?_eq_getElem hlt2⟩
    have T := HP.out x (List.mem_of_getElem? hx)
    obtain rfl := HR.out.at_ (by omega)
    have x4 : wr.cell? ⟨b, off + k2 * 9 + 4, none⟩ = some (ptr x.pd) := HR.out.cell k2 x hx 4 _ rfl
    have x8 : wr.cell? ⟨b, off + k2 * 9 + 8, none⟩ = some (.string x.rej) := HR.out.cell k2 x hx 8 _ rfl
    clear hx
    cases hpd : x.pd with
    | none =>
      rw [hpd] at x4
      unfold ptr at x4
      clear hpd T
      go_wp2
      go_roundw
      case rel => exact ⟨_, k2 + 1, by omega, rfl, by go_num, by trivial⟩
      case measure => simp [intOf]; omega
    | some q =>
      obtain ⟨pb, po⟩ := q
      have xd := T.d pb po hpd
      rw [hpd] at x4
      unfold ptr at x4
      clear hpd T
      go_wp2
      go_roundw
      case rel => exact ⟨_, k2 + 1, by omega, rfl, by go_num, by trivial⟩
      case measure => simp [intOf]; omega
  have i2 : ¬ (k2 : Int) < ts.length := by omega
  go_wp2
  go_ret
  exact ⟨_, rfl, rfl⟩
end Go.Proofs.Qxb6609239a.R
