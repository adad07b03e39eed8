import Derived.Test.Qxb6609239aHas
import Derived.Laws.Pointers
namespace Go.Proofs.Qxb6609239a.R
open Go.RowKit
set_option linter.unusedVariables false
attribute [local go_sem ↓] Go.wp_at_zero Go.wp_at_succ
attribute [local go_sem] eq49 eq97
/-- a Try, and what its pointers lead to -/
structure TR where
  rule : Int
  route : Int
  pm : Option (Nat × Nat)
  ps : Option (Nat × Nat)
  pd : Option (Nat × Nat)
  pp : Option (Nat × Nat)
  pa : Option (Nat × Nat)
  m : Int
  n : NS
  dn : ByteArray
  p : Int
  ac : Int
  ma : Bool
  rej : ByteArray
def ptr (p : Option (Nat × Nat)) : Value := .pointer (p.map fun x => ⟨x.1, x.2, none⟩)
abbrev TR.cells (t : TR) : Array Value := #[.int .u8 t.rule, .int .u8 t.route, ptr t.pm, ptr t.ps, ptr t.pd, ptr t.pp, ptr t.pa, .bool t.ma, .string t.rej]
structure TOK (w : World) (t : TR) : Prop where
  m : ∀ b o, t.pm = some (b, o) → w.cell? ⟨b, o, none⟩ = some (.int .u8 t.m)
  n : ∀ b o, t.ps = some (b, o) → ∀ f v, t.n.cells[f]? = some v → w.cell? ⟨b, o + f, none⟩ = some v
  d : ∀ b o, t.pd = some (b, o) → w.cell? ⟨b, o, none⟩ = some (.string t.dn)
  p : ∀ b o, t.pp = some (b, o) → w.cell? ⟨b, o, none⟩ = some (.int .u8 t.p)
  ac : ∀ b o, t.pa = some (b, o) → w.cell? ⟨b, o, none⟩ = some (.int .u8 t.ac)
theorem TOK.old {w w' : World} {t : TR} (h : TOK w t) (ho : Old w w') : TOK w' t :=
  ⟨fun b o e => ho.cell (h.m b o e), fun b o e f v hv => ho.cell (h.n b o e f v hv), fun b o e => ho.cell (h.d b o e), fun b o e => ho.cell (h.p b o e), fun b o e => ho.cell (h.ac b o e)⟩
def askN (t : TR) (n : NS) : Bool := t.ps.isSome && sameN t.n n
def askD (t : TR) (d : ByteArray) : Bool := t.pd.isSome && decide (fold t.dn = fold d)
theorem toList_beq (a b : ByteArray) : (a.toList == b.toList) = decide (a = b) := by
  rw [ByteArray.toList_eq, ByteArray.toList_eq, Bool.eq_iff_iff, beq_iff_eq, decide_eq_true_iff]
  cases a; cases b
  exact ⟨fun h => congrArg ByteArray.mk (Array.toList_inj.1 h), fun h => by cases h; rfl⟩
set_option maxRecDepth 100000 in
set_option maxHeartbeats 3200000 in
theorem asked21 (ts : List TR) (d : ByteArray) (ad : Option Addr) (b off cap : Nat) (w : World) (h : Row w 9 TR.cells ts ad b off) (hp : ∀ t ∈ ts, TOK w t) (hs : ∀ t ∈ ts, t.dn.size ≤ 1048576) (hd : d.size ≤ 1048576) (hl : ts.length ≤ 1048576) (v : Bool) (hv : ts.any (fun t => askD t d) = v) :
    Calls Try.prog 21 #[.slice ad ts.length cap, .string d] w fun e w' => e = .returned (.bool v) ∧ Old w w' := by
  have HV := hide hv
  have HR := hide h
  have HP := hide hp
  have HSZ := hide hs
  clear hv h hp hs
  go_enter Try.func21, Try.ntmps21
  go_wp2_with (go_at_call 23; refine (fold23 d _ hd).mono ?_; rintro e w1 ⟨rfl, ho1⟩; have HO1 := hide ho1; clear ho1)
  go_loopw [6] (fun i w' => ∃ k : Nat, k ≤ ts.length ∧ i = .int .i64 k ∧ (∀ j x, j < k → ts[j]? = some x → askD x d = false) ∧ Old w1 w') (fun i _ => ts.length - (intOf i).toNat)
  case atStart => exact ⟨0, Nat.zero_le _, rfl, by omega, Old.refl _⟩
  case round =>
    obtain ⟨k, hk, rfl, hall, hw⟩ := hrel
    have HW := hide hw
    have HA := hide hall
    clear hw hall
    by_cases hlt : k < ts.length
    · obtain ⟨x, hx⟩ : ∃ x, ts[k]? = some x := ⟨_, List.getElem?_eq_getElem hlt⟩
      have HX := hide hx
      have hmem := List.mem_of_getElem? hx
      have R := HR.out.old (HO1.out.trans HW.out)
      have T := (HP.out x hmem).old (HO1.out.trans HW.out)
      have hsz := HSZ.out x hmem
      have i1 : (k : Int) < ts.length := by omega
      obtain rfl := R.at_ (by omega)
      have x4 : wr.cell? ⟨b, off + k * 9 + 4, none⟩ = some (ptr x.pd) := R.cell k x hx 4 _ rfl
      clear R hx
      cases hpd : x.pd with
      | none =>
        have HS : Hid (askD x d = false) := hide (by simp [askD, hpd])
        rw [hpd] at x4
        unfold ptr at x4
        clear T hpd
        go_wp2
        go_roundw
        case rel =>
          refine ⟨k + 1, by omega, by go_num, ?_, HW.out⟩
          intro j y hj hy
          rcases Nat.lt_succ_iff_lt_or_eq.1 hj with h | rfl
          · exact HA.out j y h hy
          · rw [HX.out] at hy; cases hy; exact HS.out
        case measure => simp [intOf]; omega
      | some q =>
        obtain ⟨qb, qo⟩ := q
        have xd := T.d qb qo hpd
        rw [hpd] at x4
        unfold ptr at x4
        have Hq : Hid (askD x d = decide (fold x.dn = fold d)) := hide (by simp [askD, hpd])
        clear T hpd
        cases hq : decide (fold x.dn = fold d)
        · have E := (toList_beq (fold x.dn) (fold d)).trans hq
          have HS := hide (Hq.out.trans hq)
          clear hq
          go_wp2_with (go_at_call 23; refine (fold23 x.dn _ hsz).mono ?_; rintro e w3 ⟨rfl, ho3⟩; have HO3 := hide ho3; clear ho3)
          go_roundw
          case rel =>
            refine ⟨k + 1, by omega, by go_num, ?_, HW.out.trans HO3.out⟩
            intro j y hj hy
            rcases Nat.lt_succ_iff_lt_or_eq.1 hj with h | rfl
            · exact HA.out j y h hy
            · rw [HX.out] at hy; cases hy; exact HS.out
          case measure => simp [intOf]; omega
        · have E := (toList_beq (fold x.dn) (fold d)).trans hq
          have HF : Hid (true = v) := hide (HV.out ▸ (any_true_of (p := fun t => askD t d) HX.out (Hq.out.trans hq)).symm)
          clear hq
          go_wp2_with (go_at_call 23; refine (fold23 x.dn _ hsz).mono ?_; rintro e w3 ⟨rfl, ho3⟩; have HO3 := hide ho3; clear ho3)
          go_ret
          exact ⟨ret_bool HF.out, HO1.out.trans (HW.out.trans HO3.out)⟩
    · have HF : Hid (false = v) := hide (HV.out ▸ (any_false_of (p := fun t => askD t d) (fun j x hx => HA.out j x (by have := (List.getElem?_eq_some_iff.1 hx).1; omega) hx)).symm)
      have i1 : ¬ (k : Int) < ts.length := by omega
      go_wp2
      go_ret
      exact ⟨ret_bool HF.out, HO1.out.trans HW.out⟩
set_option maxRecDepth 100000 in
set_option maxHeartbeats 3200000 in
theorem asked18 (ts : List TR) (n : NS) (ad : Option Addr) (b off cap : Nat) (w : World) (h : Row w 9 TR.cells ts ad b off) (hp : ∀ t ∈ ts, TOK w t) (hl : ts.length ≤ 1048576) (v : Bool) (hv : ts.any (fun t => askN t n) = v) :
    Calls Try.prog 18 #[.slice ad ts.length cap, .agg n.cells] w fun e w' => e = .returned (.bool v) ∧ Old w w' := by
  have HV := hide hv
  have HR := hide h
  have HP := hide hp
  clear hv h hp
  go_enter Try.func18, Try.ntmps18
  go_wp2_with (go_at_call 32; refine (key32 n _).mono ?_; rintro e w1 ⟨rfl, ho1⟩)
  have hk := key_cells w1 n.a (kh n.h) (kx n.h n.b) (kx n.h n.c) (kx n.h n.d)
  have HO1 := hide ho1
  have HK := hide hk
  clear hk ho1
  go_loopw [6] (fun i w' => ∃ k : Nat, k ≤ ts.length ∧ i = .int .i64 k ∧ (∀ j x, j < k → ts[j]? = some x → askN x n = false) ∧ Old (w1.alloc (.cells (key5 n.a (kh n.h) (kx n.h n.b) (kx n.h n.c) (kx n.h n.d)) 97)) w') (fun i _ => ts.length - (intOf i).toNat)
  case atStart => exact ⟨0, Nat.zero_le _, rfl, by omega, Old.refl _⟩
  case round =>
    obtain ⟨k, hk, rfl, hall, hw⟩ := hrel
    have HW := hide hw
    have HA := hide hall
    clear hw hall
    have HOO := hide ((((Old.refl w).alloc _).trans HO1.out).trans (((Old.refl w1).alloc _).trans HW.out))
    by_cases hlt : k < ts.length
    · obtain ⟨x, hx⟩ : ∃ x, ts[k]? = some x := ⟨_, List.getElem?_eq_getElem hlt⟩
      have HX := hide hx
      have R := HR.out.old HOO.out
      have T := (HP.out x (List.mem_of_getElem? hx)).old HOO.out
      have i1 : (k : Int) < ts.length := by omega
      obtain rfl := R.at_ (by omega)
      have x3 : wr.cell? ⟨b, off + k * 9 + 3, none⟩ = some (ptr x.ps) := R.cell k x hx 3 _ rfl
      have y0 : wr.cell? ⟨w1.heap.size, 0, none⟩ = _ := HW.out.cell (HK.out 0 _ rfl)
      have y1 : wr.cell? ⟨w1.heap.size, 1, none⟩ = _ := HW.out.cell (HK.out 1 _ rfl)
      have y2 : wr.cell? ⟨w1.heap.size, 2, none⟩ = _ := HW.out.cell (HK.out 2 _ rfl)
      have y3 : wr.cell? ⟨w1.heap.size, 3, none⟩ = _ := HW.out.cell (HK.out 3 _ rfl)
      have y4 : wr.cell? ⟨w1.heap.size, 4, none⟩ = _ := HW.out.cell (HK.out 4 _ rfl)
      clear R hx
      cases hps : x.ps with
      | none =>
        have HS : Hid (askN x n = false) := hide (by simp [askN, hps])
        rw [hps] at x3
        unfold ptr at x3
        clear T hps
        go_wp2
        go_quiet (fail)
        go_wp2
        go_roundw
        case rel =>
          refine ⟨k + 1, by omega, by go_num, ?_, HW.out.drewN _⟩
          intro j y hj hy
          rcases Nat.lt_succ_iff_lt_or_eq.1 hj with h | rfl
          · exact HA.out j y h hy
          · rw [HX.out] at hy; cases hy; exact HS.out
        case measure => simp [intOf]; omega
      | some q =>
        obtain ⟨qb, qo⟩ := q
        have x0 : wr.cell? ⟨qb, qo, none⟩ = _ := T.n qb qo hps 0 _ rfl
        have x1 : wr.cell? ⟨qb, qo + 1, none⟩ = _ := T.n qb qo hps 1 _ rfl
        have x2 : wr.cell? ⟨qb, qo + 2, none⟩ = _ := T.n qb qo hps 2 _ rfl
        have x3' : wr.cell? ⟨qb, qo + 3, none⟩ = _ := T.n qb qo hps 3 _ rfl
        have x4 : wr.cell? ⟨qb, qo + 4, none⟩ = _ := T.n qb qo hps 4 _ rfl
        rw [hps] at x3
        unfold ptr at x3
        have Hq : Hid (askN x n = sameN x.n n) := hide (by simp [askN, hps])
        clear T hps
        cases hq : sameN x.n n
        · have E := (key_same x.n n).trans hq
          have HS := hide (Hq.out.trans hq)
          clear hq
          go_wp2
          go_region_with (go_at_call 32; refine (key32 x.n _).mono ?_; rintro e w3 ⟨rfl, ho3⟩; have HO3 := hide ho3; have z0 := HO3.out.cell y0; have z1 := HO3.out.cell y1; have z2 := HO3.out.cell y2; have z3 := HO3.out.cell y3; have z4 := HO3.out.cell y4; clear ho3)
          all_goals
            go_wp2
            go_roundw
            case rel =>
              refine ⟨k + 1, by omega, by go_num, ?_, HW.out.trans HO3.out.of_drew⟩
              intro j y hj hy
              rcases Nat.lt_succ_iff_lt_or_eq.1 hj with h | rfl
              · exact HA.out j y h hy
              · rw [HX.out] at hy; cases hy; exact HS.out
            case measure => simp [intOf]; omega
        · have E := (key_same x.n n).trans hq
          have HF : Hid (true = v) := hide (HV.out ▸ (any_true_of (p := fun t => askN t n) HX.out (Hq.out.trans hq)).symm)
          clear hq
          go_wp2
          go_region_with (go_at_call 32; refine (key32 x.n _).mono ?_; rintro e w3 ⟨rfl, ho3⟩; have HO3 := hide ho3; have z0 := HO3.out.cell y0; have z1 := HO3.out.cell y1; have z2 := HO3.out.cell y2; have z3 := HO3.out.cell y3; have z4 := HO3.out.cell y4; clear ho3)
          all_goals
            go_wp2
            go_ret
            exact ⟨ret_bool HF.out, HOO.out.trans HO3.out.of_drew⟩
    · have HF : Hid (false = v) := hide (HV.out ▸ (any_false_of (p := fun t => askN t n) (fun j x hx => HA.out j x (by have := (List.getElem?_eq_some_iff.1 hx).1; omega) hx)).symm)
      have i1 : ¬ (k : Int) < ts.length := by omega
      go_wp2
      go_ret
      exact ⟨ret_bool HF.out, HOO.out⟩
end Go.Proofs.Qxb6609239a.R
