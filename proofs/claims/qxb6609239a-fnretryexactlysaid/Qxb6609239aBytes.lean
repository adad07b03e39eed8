import Derived.Test.Qxb6609239aAsked
import Derived.Test.Qxb6609239aMake
namespace Go.Proofs.Qxb6609239a.R
open Go.RowKit
set_option linter.unusedVariables false
attribute [local go_sem ↓] Go.wp_at_zero Go.wp_at_succ
structure Small (ds : List ByteArray) (ts : List TR) : Prop where
  d : ∀ (j : Nat) x, ds[j]? = some x → x.size ≤ 1048576
  t : ∀ (j : Nat) x, ts[j]? = some x → x.pd.isSome = true → x.dn.size ≤ 1048576
  r : ∀ (j : Nat) x, ts[j]? = some x → x.rej.size ≤ 1048576
  ld : ds.length ≤ 1048576
  lt : ts.length ≤ 1048576
def ZB (P : Prop) (w : World) (e : Ending) (w' : World) : Prop := ∃ v : Bool, e = .returned (.bool v) ∧ (v = true → P) ∧ w' = w
theorem ZB.no {P : Prop} {w : World} : ZB P w (.returned (.bool false)) w := ⟨false, rfl, fun h => absurd h (by simp), rfl⟩
set_option maxRecDepth 100000 in
set_option maxHeartbeats 6400000 in
theorem zz22 (al sns : List NS) (ds : List ByteArray) (ts : List TR) (lad sad dad ad : Option Addr) (lcap scap dcap cap db doff b off : Nat) (w : World) (hd : Row w 1 dcl ds dad db doff) (h : Row w 9 TR.cells ts ad b off) (hp : ∀ t ∈ ts, TOK w t) :
    Calls Try.prog 22 #[.slice lad al.length lcap, .slice sad sns.length scap, .slice dad ds.length dcap, .slice ad ts.length cap] w fun e w' => ZB (Small ds ts) w e w' := by
  have HD := hide hd
  have HR := hide h
  have HP := hide hp
  clear hd h hp
  have E1 : (0 : Int) ≤ al.length := by omega
  have E2 : (0 : Int) ≤ sns.length := by omega
  have E3 : (0 : Int) ≤ ds.length := by omega
  have E4 : (0 : Int) ≤ ts.length := by omega
  by_cases c1 : (1048576 : Int) < al.length
  · go_enter Try.func22, Try.ntmps22
    go_wp2
    go_ret
    exact ZB.no
  go_enter Try.func22, Try.ntmps22
  go_wp2
  go_loopw [9, 10] (fun n i w' => ∃ (s k : Nat), s ≤ 1048576 ∧ k ≤ al.length ∧ n = .int .i64 s ∧ i = .int .i64 k ∧ w' = w) (fun _ i _ => al.length - (intOf i).toNat)
  case atStart => exact ⟨al.length, 0, by omega, by omega, by go_num, rfl, by trivial⟩
  case round =>
  obtain ⟨s1, k1, hs1, hk1, rfl, rfl, rfl⟩ := hrel
  by_cases hlt1 : k1 < al.length
  · have i1 : (k1 : Int) < al.length := by omega
    by_cases c2 : (1048576 : Int) < s1 + 3
    · go_wp2
      go_ret
      exact ZB.no
    · go_wp2
      go_roundw
      case rel => exact ⟨s1 + 3, k1 + 1, by omega, by omega, by go_num, by go_num, by trivial⟩
      case measure => simp [intOf]; omega
  have i1 : ¬ (k1 : Int) < al.length := by omega
  by_cases c2a : (1048576 : Int) < sns.length
  · go_wp2
    go_ret
    exact ZB.no
  by_cases c2b : (1048576 : Int) < s1 + sns.length
  · go_wp2
    go_ret
    exact ZB.no
  go_wp2
  go_loopw [9, 11] (fun n i w' => ∃ (s k : Nat), s ≤ 1048576 ∧ k ≤ sns.length ∧ n = .int .i64 s ∧ i = .int .i64 k ∧ w' = wr) (fun _ i _ => sns.length - (intOf i).toNat)
  case atStart => exact ⟨s1 + sns.length, 0, by omega, by omega, by go_num, rfl, by trivial⟩
  case round =>
  obtain ⟨s2, k2, hs2, hk2, rfl, rfl, rfl⟩ := hrel
  by_cases hlt2 : k2 < sns.length
  · have i2 : (k2 : Int) < sns.length := by omega
    by_cases c2 : (1048576 : Int) < s2 + 3
    · go_wp2
      go_ret
      exact ZB.no
    · go_wp2
      go_roundw
      case rel => exact ⟨s2 + 3, k2 + 1, by omega, by omega, by go_num, by go_num, by trivial⟩
      case measure => simp [intOf]; omega
  have i2 : ¬ (k2 : Int) < sns.length := by omega
  by_cases c3a : (1048576 : Int) < ds.length
  · go_wp2
    go_ret
    exact ZB.no
  by_cases c3b : (1048576 : Int) < s2 + ds.length
  · go_wp2
    go_ret
    exact ZB.no
  go_wp2
  go_loopw [9, 12] (fun n i w' => ∃ (s k : Nat), s ≤ 1048576 ∧ k ≤ ds.length ∧ n = .int .i64 s ∧ i = .int .i64 k ∧ Hid (∀ (j : Nat) x, j < k → ds[j]? = some x → x.size ≤ 1048576) ∧ w' = wr) (fun _ i _ => ds.length - (intOf i).toNat)
  case atStart => exact ⟨s2 + ds.length, 0, by omega, by omega, by go_num, rfl, hide (fun j x h => absurd h (by omega)), by trivial⟩
  case round =>
  obtain ⟨s3, k3, hs3, hk3, rfl, rfl, HA, rfl⟩ := hrel
  by_cases hlt3 : k3 < ds.length
  · have i3 : (k3 : Int) < ds.length := by omega
    obtain ⟨x, hx⟩ : ∃ x, ds[k3]? = some x := ⟨_, List.getElem?_eq_getElem hlt3⟩
    have HX := hide hx
    obtain rfl := HD.out.at_ (by omega)
    have x0 : wr.cell? ⟨db, doff + k3, none⟩ = some (.string x) := by have := HD.out.cell k3 x hx 0 _ rfl; simpa using this
    have ex : (0 : Int) ≤ x.size := by omega
    clear hx
    by_cases c3 : (1048576 : Int) < x.size
    · go_wp2
      go_ret
      exact ZB.no
    by_cases c4 : (1048576 : Int) < s3 + x.size
    · go_wp2
      go_ret
      exact ZB.no
    · go_wp2
      go_roundw
      case rel =>
        refine ⟨s3 + x.size, k3 + 1, by omega, by omega, by go_num, by go_num, hide ?_, by trivial⟩
        intro j y hj hy
        rcases Nat.lt_succ_iff_lt_or_eq.1 hj with h | rfl
        · exact HA.out j y h hy
        · rw [HX.out] at hy; cases hy; omega
      case measure => simp [intOf]; omega
  have i3 : ¬ (k3 : Int) < ds.length := by omega
  have HDS : Hid (∀ (j : Nat) x, ds[j]? = some x → x.size ≤ 1048576) := hide fun j x hx => HA.out j x (by have := (List.getElem?_eq_some_iff.1 hx).1; omega) hx
  by_cases c4a : (1048576 : Int) < ts.length
  · go_wp2
    go_ret
    exact ZB.no
  by_cases c4b : (1048576 : Int) < s3 + ts.length
  · go_wp2
    go_ret
    exact ZB.no
  go_wp2
  go_loopw [9, 13] (fun n i w' => ∃ (s k : Nat), s ≤ 1048576 ∧ k ≤ ts.length ∧ n = .int .i64 s ∧ i = .int .i64 k ∧ Hid (∀ (j : Nat) (x : TR), j < k → ts[j]? = some x → (x.pd.isSome = true → x.dn.size ≤ 1048576) ∧ x.rej.size ≤ 1048576) ∧ w' = wr) (fun _ i _ => ts.length - (intOf i).toNat)
  case atStart => exact ⟨s3 + ts.length, 0, by omega, by omega, by go_num, rfl, hide (fun j x h => absurd h (by omega)), by trivial⟩
  case round =>
  obtain ⟨s4, k4, hs4, hk4, rfl, rfl, HA4, rfl⟩ := hrel
  by_cases hlt4 : k4 < ts.length
  · have i4 : (k4 : Int) < ts.length := by omega
    obtain ⟨x, hx⟩ : ∃ x, ts[k4]? = some x := ⟨_, List.getElem?_eq_getElem hlt4⟩
    have HX := hide hx
    have T := HP.out x (List.mem_of_getElem? hx)
    obtain rfl := HR.out.at_ (by omega)
    have x3 : wr.cell? ⟨b, off + k4 * 9 + 3, none⟩ = some (ptr x.ps) := HR.out.cell k4 x hx 3 _ rfl
    have x4 : wr.cell? ⟨b, off + k4 * 9 + 4, none⟩ = some (ptr x.pd) := HR.out.cell k4 x hx 4 _ rfl
    have x8 : wr.cell? ⟨b, off + k4 * 9 + 8, none⟩ = some (.string x.rej) := HR.out.cell k4 x hx 8 _ rfl
    have ex : (0 : Int) ≤ x.rej.size := by omega
    have ey : (0 : Int) ≤ x.dn.size := by omega
    clear hx
    cases hps : x.ps with
    | none =>
      rw [hps] at x3
      unfold ptr at x3
      clear hps
      cases hpd : x.pd with
      | none =>
        have HPD := hide hpd
        rw [hpd] at x4
        unfold ptr at x4
        clear hpd T
        by_cases c8 : (1048576 : Int) < x.rej.size
        · go_wp2
          go_ret
          exact ZB.no
        by_cases c9 : (1048576 : Int) < s4 + x.rej.size
        · go_wp2
          go_ret
          exact ZB.no
        go_wp2
        go_roundw
        case rel =>
          refine ⟨s4 + x.rej.size, k4 + 1, by omega, by omega, by go_num, by go_num, hide ?_, by trivial⟩
          intro j y hj hy
          rcases Nat.lt_succ_iff_lt_or_eq.1 hj with h | rfl
          · exact HA4.out j y h hy
          · rw [HX.out] at hy; cases hy; exact ⟨fun h => by rw [HPD.out] at h; simp at h, by omega⟩
        case measure => simp [intOf]; omega
      | some q =>
        obtain ⟨pb, po⟩ := q
        have xd := T.d pb po hpd
        rw [hpd] at x4
        unfold ptr at x4
        clear hpd T
        by_cases c6 : (1048576 : Int) < x.dn.size
        · go_wp2
          go_ret
          exact ZB.no
        by_cases c7 : (1048576 : Int) < s4 + x.dn.size
        · go_wp2
          go_ret
          exact ZB.no
        by_cases c8 : (1048576 : Int) < x.rej.size
        · go_wp2
          go_ret
          exact ZB.no
        by_cases c9 : (1048576 : Int) < s4 + x.dn.size + x.rej.size
        · go_wp2
          go_ret
          exact ZB.no
        go_wp2
        go_roundw
        case rel =>
          refine ⟨s4 + x.dn.size + x.rej.size, k4 + 1, by omega, by omega, by go_num, by go_num, hide ?_, by trivial⟩
          intro j y hj hy
          rcases Nat.lt_succ_iff_lt_or_eq.1 hj with h | rfl
          · exact HA4.out j y h hy
          · rw [HX.out] at hy; cases hy; exact ⟨fun _ => by omega, by omega⟩
        case measure => simp [intOf]; omega
    | some q =>
      obtain ⟨qb, qo⟩ := q
      rw [hps] at x3
      unfold ptr at x3
      clear hps
      by_cases c5 : (1048576 : Int) < s4 + 3
      · go_wp2
        go_ret
        exact ZB.no
      cases hpd : x.pd with
      | none =>
        have HPD := hide hpd
        rw [hpd] at x4
        unfold ptr at x4
        clear hpd T
        by_cases c8 : (1048576 : Int) < x.rej.size
        · go_wp2
          go_ret
          exact ZB.no
        by_cases c9 : (1048576 : Int) < s4 + 3 + x.rej.size
        · go_wp2
          go_ret
          exact ZB.no
        go_wp2
        go_roundw
        case rel =>
          refine ⟨s4 + 3 + x.rej.size, k4 + 1, by omega, by omega, by go_num, by go_num, hide ?_, by trivial⟩
          intro j y hj hy
          rcases Nat.lt_succ_iff_lt_or_eq.1 hj with h | rfl
          · exact HA4.out j y h hy
          · rw [HX.out] at hy; cases hy; exact ⟨fun h => by rw [HPD.out] at h; simp at h, by omega⟩
        case measure => simp [intOf]; omega
      | some q =>
        obtain ⟨pb, po⟩ := q
        have xd := T.d pb po hpd
        rw [hpd] at x4
        unfold ptr at x4
        clear hpd T
        by_cases c6 : (1048576 : Int) < x.dn.size
        · go_wp2
          go_ret
          exact ZB.no
        by_cases c7 : (1048576 : Int) < s4 + 3 + x.dn.size
        · go_wp2
          go_ret
          exact ZB.no
        by_cases c8 : (1048576 : Int) < x.rej.size
        · go_wp2
          go_ret
          exact ZB.no
        by_cases c9 : (1048576 : Int) < s4 + 3 + x.dn.size + x.rej.size
        · go_wp2
          go_ret
          exact ZB.no
        go_wp2
        go_roundw
        case rel =>
          refine ⟨s4 + 3 + x.dn.size + x.rej.size, k4 + 1, by omega, by omega, by go_num, by go_num, hide ?_, by trivial⟩
          intro j y hj hy
          rcases Nat.lt_succ_iff_lt_or_eq.1 hj with h | rfl
          · exact HA4.out j y h hy
          · rw [HX.out] at hy; cases hy; exact ⟨fun _ => by omega, by omega⟩
        case measure => simp [intOf]; omega
  have i4 : ¬ (k4 : Int) < ts.length := by omega
  go_wp2
  go_ret
  exact ⟨true, rfl, fun _ => ⟨HDS.out, fun j x hx => (HA4.out j x (by have := (List.getElem?_eq_some_iff.1 hx).1; omega) hx).1, fun j x hx => (HA4.out j x (by have := (List.getElem?_eq_some_iff.1 hx).1; omega) hx).2, by omega, by omega⟩, rfl⟩
set_option maxRecDepth 100000 in
set_option maxHeartbeats 6400000 in
theorem zz11 (al sns : List NS) (ds : List ByteArray) (ts : List TR) (lad sad dad ad : Option Addr) (lcap scap dcap cap db doff b off : Nat) (w : World) (hd : Row w 1 dcl ds dad db doff) (h : Row w 9 TR.cells ts ad b off) (hp : ∀ t ∈ ts, TOK w t) :
    Calls Try.prog 11 #[.slice lad al.length lcap, .slice sad sns.length scap, .slice dad ds.length dcap, .slice ad ts.length cap] w fun e w' => ZB (Small ds ts) w e w' := by
  have HD := hide hd
  have HR := hide h
  have HP := hide hp
  clear hd h hp
  have E1 : (0 : Int) ≤ al.length := by omega
  have E2 : (0 : Int) ≤ sns.length := by omega
  have E3 : (0 : Int) ≤ ds.length := by omega
  have E4 : (0 : Int) ≤ ts.length := by omega
  by_cases c1 : (1048576 : Int) < al.length
  · go_enter Try.func11, Try.ntmps11
    go_wp2
    go_ret
    exact ZB.no
  go_enter Try.func11, Try.ntmps11
  go_wp2
  go_loopw [9, 10] (fun n i w' => ∃ (s k : Nat), s ≤ 1048576 ∧ k ≤ al.length ∧ n = .int .i64 s ∧ i = .int .i64 k ∧ w' = w) (fun _ i _ => al.length - (intOf i).toNat)
  case atStart => exact ⟨al.length, 0, by omega, by omega, by go_num, rfl, by trivial⟩
  case round =>
  obtain ⟨s1, k1, hs1, hk1, rfl, rfl, rfl⟩ := hrel
  by_cases hlt1 : k1 < al.length
  · have i1 : (k1 : Int) < al.length := by omega
    by_cases c2 : (1048576 : Int) < s1 + 3
    · go_wp2
      go_ret
      exact ZB.no
    · go_wp2
      go_roundw
      case rel => exact ⟨s1 + 3, k1 + 1, by omega, by omega, by go_num, by go_num, by trivial⟩
      case measure => simp [intOf]; omega
  have i1 : ¬ (k1 : Int) < al.length := by omega
  by_cases c2a : (1048576 : Int) < sns.length
  · go_wp2
    go_ret
    exact ZB.no
  by_cases c2b : (1048576 : Int) < s1 + sns.length
  · go_wp2
    go_ret
    exact ZB.no
  go_wp2
  go_loopw [9, 11] (fun n i w' => ∃ (s k : Nat), s ≤ 1048576 ∧ k ≤ sns.length ∧ n = .int .i64 s ∧ i = .int .i64 k ∧ w' = wr) (fun _ i _ => sns.length - (intOf i).toNat)
  case atStart => exact ⟨s1 + sns.length, 0, by omega, by omega, by go_num, rfl, by trivial⟩
  case round =>
  obtain ⟨s2, k2, hs2, hk2, rfl, rfl, rfl⟩ := hrel
  by_cases hlt2 : k2 < sns.length
  · have i2 : (k2 : Int) < sns.length := by omega
    by_cases c2 : (1048576 : Int) < s2 + 3
    · go_wp2
      go_ret
      exact ZB.no
    · go_wp2
      go_roundw
      case rel => exact ⟨s2 + 3, k2 + 1, by omega, by omega, by go_num, by go_num, by trivial⟩
      case measure => simp [intOf]; omega
  have i2 : ¬ (k2 : Int) < sns.length := by omega
  by_cases c3a : (1048576 : Int) < ds.length
  · go_wp2
    go_ret
    exact ZB.no
  by_cases c3b : (1048576 : Int) < s2 + ds.length
  · go_wp2
    go_ret
    exact ZB.no
  go_wp2
  go_loopw [9, 12] (fun n i w' => ∃ (s k : Nat), s ≤ 1048576 ∧ k ≤ ds.length ∧ n = .int .i64 s ∧ i = .int .i64 k ∧ Hid (∀ (j : Nat) x, j < k → ds[j]? = some x → x.size ≤ 1048576) ∧ w' = wr) (fun _ i _ => ds.length - (intOf i).toNat)
  case atStart => exact ⟨s2 + ds.length, 0, by omega, by omega, by go_num, rfl, hide (fun j x h => absurd h (by omega)), by trivial⟩
  case round =>
  obtain ⟨s3, k3, hs3, hk3, rfl, rfl, HA, rfl⟩ := hrel
  by_cases hlt3 : k3 < ds.length
  · have i3 : (k3 : Int) < ds.length := by omega
    obtain ⟨x, hx⟩ : ∃ x, ds[k3]? = some x := ⟨_, List.getElem?_eq_getElem hlt3⟩
    have HX := hide hx
    obtain rfl := HD.out.at_ (by omega)
    have x0 : wr.cell? ⟨db, doff + k3, none⟩ = some (.string x) := by have := HD.out.cell k3 x hx 0 _ rfl; simpa using this
    have ex : (0 : Int) ≤ x.size := by omega
    clear hx
    by_cases c3 : (1048576 : Int) < x.size
    · go_wp2
      go_ret
      exact ZB.no
    by_cases c4 : (1048576 : Int) < s3 + x.size
    · go_wp2
      go_ret
      exact ZB.no
    · go_wp2
      go_roundw
      case rel =>
        refine ⟨s3 + x.size, k3 + 1, by omega, by omega, by go_num, by go_num, hide ?_, by trivial⟩
        intro j y hj hy
        rcases Nat.lt_succ_iff_lt_or_eq.1 hj with h | rfl
        · exact HA.out j y h hy
        · rw [HX.out] at hy; cases hy; omega
      case measure => simp [intOf]; omega
  have i3 : ¬ (k3 : Int) < ds.length := by omega
  have HDS : Hid (∀ (j : Nat) x, ds[j]? = some x → x.size ≤ 1048576) := hide fun j x hx => HA.out j x (by have := (List.getElem?_eq_some_iff.1 hx).1; omega) hx
  by_cases c4a : (1048576 : Int) < ts.length
  · go_wp2
    go_ret
    exact ZB.no
  by_cases c4b : (1048576 : Int) < s3 + ts.length
  · go_wp2
    go_ret
    exact ZB.no
  go_wp2
  go_loopw [9, 13] (fun n i w' => ∃ (s k : Nat), s ≤ 1048576 ∧ k ≤ ts.length ∧ n = .int .i64 s ∧ i = .int .i64 k ∧ Hid (∀ (j : Nat) (x : TR), j < k → ts[j]? = some x → (x.pd.isSome = true → x.dn.size ≤ 1048576) ∧ x.rej.size ≤ 1048576) ∧ w' = wr) (fun _ i _ => ts.length - (intOf i).toNat)
  case atStart => exact ⟨s3 + ts.length, 0, by omega, by omega, by go_num, rfl, hide (fun j x h => absurd h (by omega)), by trivial⟩
  case round =>
  obtain ⟨s4, k4, hs4, hk4, rfl, rfl, HA4, rfl⟩ := hrel
  by_cases hlt4 : k4 < ts.length
  · have i4 : (k4 : Int) < ts.length := by omega
    obtain ⟨x, hx⟩ : ∃ x, ts[k4]? = some x := ⟨_, List.getElem?_eq_getElem hlt4⟩
    have HX := hide hx
    have T := HP.out x (List.mem_of_getElem? hx)
    obtain rfl := HR.out.at_ (by omega)
    have x3 : wr.cell? ⟨b, off + k4 * 9 + 3, none⟩ = some (ptr x.ps) := HR.out.cell k4 x hx 3 _ rfl
    have x4 : wr.cell? ⟨b, off + k4 * 9 + 4, none⟩ = some (ptr x.pd) := HR.out.cell k4 x hx 4 _ rfl
    have x8 : wr.cell? ⟨b, off + k4 * 9 + 8, none⟩ = some (.string x.rej) := HR.out.cell k4 x hx 8 _ rfl
    have ex : (0 : Int) ≤ x.rej.size := by omega
    have ey : (0 : Int) ≤ x.dn.size := by omega
    clear hx
    cases hps : x.ps with
    | none =>
      rw [hps] at x3
      unfold ptr at x3
      clear hps
      cases hpd : x.pd with
      | none =>
        have HPD := hide hpd
        rw [hpd] at x4
        unfold ptr at x4
        clear hpd T
        by_cases c8 : (1048576 : Int) < x.rej.size
        · go_wp2
          go_ret
          exact ZB.no
        by_cases c9 : (1048576 : Int) < s4 + x.rej.size
        · go_wp2
          go_ret
          exact ZB.no
        go_wp2
        go_roundw
        case rel =>
          refine ⟨s4 + x.rej.size, k4 + 1, by omega, by omega, by go_num, by go_num, hide ?_, by trivial⟩
          intro j y hj hy
          rcases Nat.lt_succ_iff_lt_or_eq.1 hj with h | rfl
          · exact HA4.out j y h hy
          · rw [HX.out] at hy; cases hy; exact ⟨fun h => by rw [HPD.out] at h; simp at h, by omega⟩
        case measure => simp [intOf]; omega
      | some q =>
        obtain ⟨pb, po⟩ := q
        have xd := T.d pb po hpd
        rw [hpd] at x4
        unfold ptr at x4
        clear hpd T
        by_cases c6 : (1048576 : Int) < x.dn.size
        · go_wp2
          go_ret
          exact ZB.no
        by_cases c7 : (1048576 : Int) < s4 + x.dn.size
        · go_wp2
          go_ret
          exact ZB.no
        by_cases c8 : (1048576 : Int) < x.rej.size
        · go_wp2
          go_ret
          exact ZB.no
        by_cases c9 : (1048576 : Int) < s4 + x.dn.size + x.rej.size
        · go_wp2
          go_ret
          exact ZB.no
        go_wp2
        go_roundw
        case rel =>
          refine ⟨s4 + x.dn.size + x.rej.size, k4 + 1, by omega, by omega, by go_num, by go_num, hide ?_, by trivial⟩
          intro j y hj hy
          rcases Nat.lt_succ_iff_lt_or_eq.1 hj with h | rfl
          · exact HA4.out j y h hy
          · rw [HX.out] at hy; cases hy; exact ⟨fun _ => by omega, by omega⟩
        case measure => simp [intOf]; omega
    | some q =>
      obtain ⟨qb, qo⟩ := q
      rw [hps] at x3
      unfold ptr at x3
      clear hps
      by_cases c5 : (1048576 : Int) < s4 + 3
      · go_wp2
        go_ret
        exact ZB.no
      cases hpd : x.pd with
      | none =>
        have HPD := hide hpd
        rw [hpd] at x4
        unfold ptr at x4
        clear hpd T
        by_cases c8 : (1048576 : Int) < x.rej.size
        · go_wp2
          go_ret
          exact ZB.no
        by_cases c9 : (1048576 : Int) < s4 + 3 + x.rej.size
        · go_wp2
          go_ret
          exact ZB.no
        go_wp2
        go_roundw
        case rel =>
          refine ⟨s4 + 3 + x.rej.size, k4 + 1, by omega, by omega, by go_num, by go_num, hide ?_, by trivial⟩
          intro j y hj hy
          rcases Nat.lt_succ_iff_lt_or_eq.1 hj with h | rfl
          · exact HA4.out j y h hy
          · rw [HX.out] at hy; cases hy; exact ⟨fun h => by rw [HPD.out] at h; simp at h, by omega⟩
        case measure => simp [intOf]; omega
      | some q =>
        obtain ⟨pb, po⟩ := q
        have xd := T.d pb po hpd
        rw [hpd] at x4
        unfold ptr at x4
        clear hpd T
        by_cases c6 : (1048576 : Int) < x.dn.size
        · go_wp2
          go_ret
          exact ZB.no
        by_cases c7 : (1048576 : Int) < s4 + 3 + x.dn.size
        · go_wp2
          go_ret
          exact ZB.no
        by_cases c8 : (1048576 : Int) < x.rej.size
        · go_wp2
          go_ret
          exact ZB.no
        by_cases c9 : (1048576 : Int) < s4 + 3 + x.dn.size + x.rej.size
        · go_wp2
          go_ret
          exact ZB.no
        go_wp2
        go_roundw
        case rel =>
          refine ⟨s4 + 3 + x.dn.size + x.rej.size, k4 + 1, by omega, by omega, by go_num, by go_num, hide ?_, by trivial⟩
          intro j y hj hy
          rcases Nat.lt_succ_iff_lt_or_eq.1 hj with h | rfl
          · exact HA4.out j y h hy
          · rw [HX.out] at hy; cases hy; exact ⟨fun _ => by omega, by omega⟩
        case measure => simp [intOf]; omega
  have i4 : ¬ (k4 : Int) < ts.length := by omega
  go_wp2
  go_ret
  exact ⟨true, rfl, fun _ => ⟨HDS.out, fun j x hx => (HA4.out j x (by have := (List.getElem?_eq_some_iff.1 hx).1; omega) hx).1, fun j x hx => (HA4.out j x (by have := (List.getElem?_eq_some_iff.1 hx).1; omega) hx).2, by omega, by omega⟩, rfl⟩
end Go.Proofs.Qxb6609239a.R
