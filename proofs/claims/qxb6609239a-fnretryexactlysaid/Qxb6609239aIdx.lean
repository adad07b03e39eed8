import Derived.Test.Qxb6609239aClo
namespace Go.Proofs.Qxb6609239a.R
open Go.RowKit
set_option linter.unusedVariables false
attribute [local go_sem ↓] Go.wp_at_zero Go.wp_at_succ
/-- slices.IndexFunc -/
def idx {α : Type} (p : α → Bool) (xs : List α) : Int := match xs.findIdx? p with | some i => (i : Int) | none => -1
theorem idx_none {α : Type} {p : α → Bool} {xs : List α} (h : ∀ (j : Nat) x, xs[j]? = some x → p x = false) : idx p xs = -1 := by
  unfold idx
  rw [List.findIdx?_eq_none_iff.2]
  intro x hx
  obtain ⟨j, hj, rfl⟩ := List.mem_iff_getElem.1 hx
  exact h j _ (List.getElem?_eq_getElem hj)
theorem idx_some {α : Type} {p : α → Bool} {xs : List α} {k : Nat} {x : α} (hx : xs[k]? = some x) (hp : p x = true) (h : ∀ (j : Nat) y, j < k → xs[j]? = some y → p y = false) : idx p xs = k := by
  unfold idx
  have hk := (List.getElem?_eq_some_iff.1 hx).1
  have e : xs.findIdx? p = some k := List.findIdx?_eq_some_iff_getElem.2 ⟨hk, by have := (List.getElem?_eq_some_iff.1 hx).2; rw [this]; exact hp, fun j hj => by rw [h j _ hj (List.getElem?_eq_getElem (by omega))]; simp⟩
  rw [e]
theorem idx_any {α : Type} (p : α → Bool) (xs : List α) : decide (0 ≤ idx p xs) = xs.any p := by
  unfold idx
  cases h : xs.findIdx? p with
  | none =>
    rw [List.findIdx?_eq_none_iff] at h
    rw [decide_eq_false (by decide), List.any_eq_false.2 (fun x hx => by rw [h x hx]; simp)]
  | some i =>
    obtain ⟨hi, hp, _⟩ := List.findIdx?_eq_some_iff_getElem.1 h
    rw [decide_eq_true (by show (0 : Int) ≤ (i : Int); omega), List.any_eq_true.2 ⟨_, List.getElem_mem hi, hp⟩]
theorem idx_lt {α : Type} {p : α → Bool} {xs : List α} {k : Nat} (h : idx p xs = k) : k < xs.length := by
  unfold idx at h
  cases h' : xs.findIdx? p with
  | none => rw [h'] at h; simp only at h; omega
  | some i =>
    rw [h'] at h; simp only at h
    obtain ⟨hi, hp, _⟩ := List.findIdx?_eq_some_iff_getElem.1 h'
    omega

set_option maxRecDepth 100000 in
set_option maxHeartbeats 3200000 in
theorem clo35N (a : Nat × TR) (n : NS) (bn bi : Nat) (w : World) (h : AOK w a) (hn : ∀ f v, n.cells[f]? = some v → w.cell? ⟨bn, f, none⟩ = some v) (hi : w.cell? ⟨bi, 0, none⟩ = some (.func (.func 39) #[] #[.pointer (some ⟨bn, 0, none⟩)])) (v : Bool) (hv : askN a.2 n = v) :
    Calls Try.prog 35 #[.pointer (some ⟨a.1, 0, none⟩), .pointer (some ⟨bi, 0, none⟩)] w fun e w' => e = .returned (.bool v) ∧ Old w w' := by
  have HC : Hid (∀ W, Old w W → Calls Try.prog 39 #[.pointer (some ⟨a.1, 2, none⟩), .pointer (some ⟨bn, 0, none⟩)] W fun e w' => e = .returned (.bool v) ∧ Old W w') := hide fun W ho => clo39 a n bn W (h.old ho) (fun f v hv => ho.cell (hn f v hv)) v hv
  have HI := hide hi
  clear h hn hv hi
  obtain ⟨g, t⟩ := a
  go_enter Try.func35, Try.ntmps35
  go_wp2
  go_region_held3 (fun W => W.cell? ⟨bi, 0, none⟩ = some (.func (.func 39) #[] #[.pointer (some ⟨bn, 0, none⟩)]))
    (first | exact (Old.refl w).drew.cell HI.out | exact HOO.out.cell HI.out)
    (first | (go_at_call 39; refine (HC.out _ (Old.refl w).drew).mono ?_; rintro e w1 ⟨rfl, ho'⟩; have HOO := hide ho'.of_drew; clear ho'))
  all_goals
    go_wp2
    go_ret
    exact ⟨rfl, HOO.out⟩

set_option maxRecDepth 100000 in
set_option maxHeartbeats 3200000 in
theorem clo35D (a : Nat × TR) (d : ByteArray) (bn bi : Nat) (w : World) (h : AOK w a) (hn : w.cell? ⟨bn, 0, none⟩ = some (.string d)) (hs : a.2.dn.size ≤ 1048576) (hd : d.size ≤ 1048576) (hi : w.cell? ⟨bi, 0, none⟩ = some (.func (.func 43) #[] #[.pointer (some ⟨bn, 0, none⟩)])) (v : Bool) (hv : askD a.2 d = v) :
    Calls Try.prog 35 #[.pointer (some ⟨a.1, 0, none⟩), .pointer (some ⟨bi, 0, none⟩)] w fun e w' => e = .returned (.bool v) ∧ Old w w' := by
  have HC : Hid (∀ W, Old w W → Calls Try.prog 43 #[.pointer (some ⟨a.1, 2, none⟩), .pointer (some ⟨bn, 0, none⟩)] W fun e w' => e = .returned (.bool v) ∧ Old W w') := hide fun W ho => clo43 a d bn W (h.old ho) (ho.cell hn) hs hd v hv
  have HI := hide hi
  clear h hn hv hi
  obtain ⟨g, t⟩ := a
  go_enter Try.func35, Try.ntmps35
  go_wp2
  go_region_held3 (fun W => W.cell? ⟨bi, 0, none⟩ = some (.func (.func 43) #[] #[.pointer (some ⟨bn, 0, none⟩)]))
    (first | exact (Old.refl w).drew.cell HI.out | exact HOO.out.cell HI.out)
    (first | (go_at_call 43; refine (HC.out _ (Old.refl w).drew).mono ?_; rintro e w1 ⟨rfl, ho'⟩; have HOO := hide ho'.of_drew; clear ho'))
  all_goals
    go_wp2
    go_ret
    exact ⟨rfl, HOO.out⟩

set_option maxRecDepth 100000 in
set_option maxHeartbeats 3200000 in
theorem idx45 (p : Nat × TR → Bool) (xs : List (Nat × TR)) (bi : Nat) (ad : Option Addr) (b off cap : Nat) (w : World) (h : Row w 1 acl xs ad b off) (hl : xs.length ≤ 1048576)
    (hc : ∀ x ∈ xs, ∀ W v, Old w W → p x = v → Calls Try.prog 35 #[.pointer (some ⟨x.1, 0, none⟩), .pointer (some ⟨bi, 0, none⟩)] W fun e w' => e = .returned (.bool v) ∧ Old W w') (r : Int) (hr : idx p xs = r) :
    Calls Try.prog 45 #[.slice ad xs.length cap, .func (.func 35) #[] #[.pointer (some ⟨bi, 0, none⟩)]] w fun e w' => e = .returned (.int .i64 r) ∧ Old w w' := by
  have HV := hide hr
  have HR := hide h
  have HC := hide hc
  have e0 : (0 : Int) ≤ xs.length := by omega
  clear hr h hc
  go_enter Try.func45, Try.ntmps45
  go_wp2
  go_loopw [8] (fun i w' => ∃ k : Nat, k ≤ xs.length ∧ i = .int .i64 k ∧ (∀ j x, j < k → xs[j]? = some x → p x = false) ∧ Old w w') (fun i _ => xs.length - (intOf i).toNat)
  case atStart => exact ⟨0, Nat.zero_le _, rfl, by omega, Old.refl _⟩
  case round =>
    obtain ⟨k, hk, rfl, hall, hw⟩ := hrel
    have HW := hide hw
    have HA := hide hall
    clear hw hall
    by_cases hlt : k < xs.length
    · obtain ⟨x, hx⟩ : ∃ x, xs[k]? = some x := ⟨_, List.getElem?_eq_getElem hlt⟩
      have HX := hide hx
      have R := HR.out.old HW.out
      have i1 : (k : Int) < xs.length := by omega
      obtain rfl := R.at_ (by omega)
      have x0 : wr.cell? ⟨b, off + k, none⟩ = some (.pointer (some ⟨x.1, 0, none⟩)) := by have := R.cell k x hx 0 _ rfl; simpa using this
      have HM := hide (List.mem_of_getElem? hx)
      clear R hx
      cases hp : p x
      · have HS := hide hp
        clear hp
        go_wp2_with (go_at_call 35; refine (HC.out x HM.out _ false HW.out HS.out).mono ?_; rintro e w3 ⟨rfl, ho3⟩; have HO3 := hide ho3; clear ho3)
        go_roundw
        case rel =>
          refine ⟨k + 1, by omega, by go_num, ?_, HW.out.trans HO3.out⟩
          intro j y hj hy
          rcases Nat.lt_succ_iff_lt_or_eq.1 hj with h | rfl
          · exact HA.out j y h hy
          · rw [HX.out] at hy; cases hy; exact HS.out
        case measure => simp [intOf]; omega
      · have HS := hide hp
        have HF : Hid ((k : Int) = r) := hide (HV.out ▸ (idx_some HX.out hp HA.out).symm)
        clear hp
        go_wp2_with (go_at_call 35; refine (HC.out x HM.out _ true HW.out HS.out).mono ?_; rintro e w3 ⟨rfl, ho3⟩; have HO3 := hide ho3; clear ho3)
        go_ret
        exact ⟨ret_int HF.out, HW.out.trans HO3.out⟩
    · have HF : Hid (-1 = r) := hide (HV.out ▸ (idx_none (p := p) (fun j x hx => HA.out j x (by have := (List.getElem?_eq_some_iff.1 hx).1; omega) hx)).symm)
      have i1 : ¬ (k : Int) < xs.length := by omega
      go_wp2
      go_ret
      exact ⟨ret_int HF.out, HW.out⟩

set_option maxRecDepth 100000 in
set_option maxHeartbeats 3200000 in
theorem idx46 (p : NS → Bool) (xs : List (NS)) (ba bc : Nat) (ad : Option Addr) (b off cap : Nat) (w : World) (h : Row w 5 NS.cells xs ad b off) (hl : xs.length ≤ 1048576)
    (hc : ∀ x ∈ xs, ∀ W v, Old w W → p x = v → Calls Try.prog 37 #[.agg x.cells, .pointer (some ⟨ba, 0, none⟩), .pointer (some ⟨bc, 0, none⟩)] W fun e w' => e = .returned (.bool v) ∧ Old W w') (r : Int) (hr : idx p xs = r) :
    Calls Try.prog 46 #[.slice ad xs.length cap, .func (.func 37) #[] #[.pointer (some ⟨ba, 0, none⟩), .pointer (some ⟨bc, 0, none⟩)]] w fun e w' => e = .returned (.int .i64 r) ∧ Old w w' := by
  have HV := hide hr
  have HR := hide h
  have HC := hide hc
  have e0 : (0 : Int) ≤ xs.length := by omega
  clear hr h hc
  go_enter Try.func46, Try.ntmps46
  go_wp2
  go_loopw [8] (fun i w' => ∃ k : Nat, k ≤ xs.length ∧ i = .int .i64 k ∧ (∀ j x, j < k → xs[j]? = some x → p x = false) ∧ Old w w') (fun i _ => xs.length - (intOf i).toNat)
  case atStart => exact ⟨0, Nat.zero_le _, rfl, by omega, Old.refl _⟩
  case round =>
    obtain ⟨k, hk, rfl, hall, hw⟩ := hrel
    have HW := hide hw
    have HA := hide hall
    clear hw hall
    by_cases hlt : k < xs.length
    · obtain ⟨x, hx⟩ : ∃ x, xs[k]? = some x := ⟨_, List.getElem?_eq_getElem hlt⟩
      have HX := hide hx
      have R := HR.out.old HW.out
      have i1 : (k : Int) < xs.length := by omega
      obtain rfl := R.at_ (by omega)
      have x0 : wr.cell? ⟨b, off + k * 5, none⟩ = _ := R.cell k x hx 0 _ rfl
      have x1 : wr.cell? ⟨b, off + k * 5 + 1, none⟩ = _ := R.cell k x hx 1 _ rfl
      have x2 : wr.cell? ⟨b, off + k * 5 + 2, none⟩ = _ := R.cell k x hx 2 _ rfl
      have x3 : wr.cell? ⟨b, off + k * 5 + 3, none⟩ = _ := R.cell k x hx 3 _ rfl
      have x4 : wr.cell? ⟨b, off + k * 5 + 4, none⟩ = _ := R.cell k x hx 4 _ rfl
      have HM := hide (List.mem_of_getElem? hx)
      clear R hx
      cases hp : p x
      · have HS := hide hp
        clear hp
        go_wp2_with (go_at_call 37; refine (HC.out x HM.out _ false HW.out HS.out).mono ?_; rintro e w3 ⟨rfl, ho3⟩; have HO3 := hide ho3; clear ho3)
        go_roundw
        case rel =>
          refine ⟨k + 1, by omega, by go_num, ?_, HW.out.trans HO3.out⟩
          intro j y hj hy
          rcases Nat.lt_succ_iff_lt_or_eq.1 hj with h | rfl
          · exact HA.out j y h hy
          · rw [HX.out] at hy; cases hy; exact HS.out
        case measure => simp [intOf]; omega
      · have HS := hide hp
        have HF : Hid ((k : Int) = r) := hide (HV.out ▸ (idx_some HX.out hp HA.out).symm)
        clear hp
        go_wp2_with (go_at_call 37; refine (HC.out x HM.out _ true HW.out HS.out).mono ?_; rintro e w3 ⟨rfl, ho3⟩; have HO3 := hide ho3; clear ho3)
        go_ret
        exact ⟨ret_int HF.out, HW.out.trans HO3.out⟩
    · have HF : Hid (-1 = r) := hide (HV.out ▸ (idx_none (p := p) (fun j x hx => HA.out j x (by have := (List.getElem?_eq_some_iff.1 hx).1; omega) hx)).symm)
      have i1 : ¬ (k : Int) < xs.length := by omega
      go_wp2
      go_ret
      exact ⟨ret_int HF.out, HW.out⟩

set_option maxRecDepth 100000 in
set_option maxHeartbeats 3200000 in
theorem idx46s (p : NS → Bool) (xs : List (NS)) (n : NS) (ad : Option Addr) (b off cap : Nat) (w : World) (h : Row w 5 NS.cells xs ad b off) (hl : xs.length ≤ 1048576)
    (hc : ∀ x ∈ xs, ∀ W v, Old w W → p x = v → Calls Try.prog 40 #[.agg n.cells, .agg x.cells] W fun e w' => e = .returned (.bool v) ∧ Old W w') (r : Int) (hr : idx p xs = r) :
    Calls Try.prog 46 #[.slice ad xs.length cap, .func (.func 40) #[.agg n.cells] #[]] w fun e w' => e = .returned (.int .i64 r) ∧ Old w w' := by
  have HV := hide hr
  have HR := hide h
  have HC := hide hc
  have e0 : (0 : Int) ≤ xs.length := by omega
  clear hr h hc
  go_enter Try.func46, Try.ntmps46
  go_wp2
  go_loopw [8] (fun i w' => ∃ k : Nat, k ≤ xs.length ∧ i = .int .i64 k ∧ (∀ j x, j < k → xs[j]? = some x → p x = false) ∧ Old w w') (fun i _ => xs.length - (intOf i).toNat)
  case atStart => exact ⟨0, Nat.zero_le _, rfl, by omega, Old.refl _⟩
  case round =>
    obtain ⟨k, hk, rfl, hall, hw⟩ := hrel
    have HW := hide hw
    have HA := hide hall
    clear hw hall
    by_cases hlt : k < xs.length
    · obtain ⟨x, hx⟩ : ∃ x, xs[k]? = some x := ⟨_, List.getElem?_eq_getElem hlt⟩
      have HX := hide hx
      have R := HR.out.old HW.out
      have i1 : (k : Int) < xs.length := by omega
      obtain rfl := R.at_ (by omega)
      have x0 : wr.cell? ⟨b, off + k * 5, none⟩ = _ := R.cell k x hx 0 _ rfl
      have x1 : wr.cell? ⟨b, off + k * 5 + 1, none⟩ = _ := R.cell k x hx 1 _ rfl
      have x2 : wr.cell? ⟨b, off + k * 5 + 2, none⟩ = _ := R.cell k x hx 2 _ rfl
      have x3 : wr.cell? ⟨b, off + k * 5 + 3, none⟩ = _ := R.cell k x hx 3 _ rfl
      have x4 : wr.cell? ⟨b, off + k * 5 + 4, none⟩ = _ := R.cell k x hx 4 _ rfl
      have HM := hide (List.mem_of_getElem? hx)
      clear R hx
      cases hp : p x
      · have HS := hide hp
        clear hp
        go_wp2_with (go_at_call 40; refine (HC.out x HM.out _ false HW.out HS.out).mono ?_; rintro e w3 ⟨rfl, ho3⟩; have HO3 := hide ho3; clear ho3)
        go_roundw
        case rel =>
          refine ⟨k + 1, by omega, by go_num, ?_, HW.out.trans HO3.out⟩
          intro j y hj hy
          rcases Nat.lt_succ_iff_lt_or_eq.1 hj with h | rfl
          · exact HA.out j y h hy
          · rw [HX.out] at hy; cases hy; exact HS.out
        case measure => simp [intOf]; omega
      · have HS := hide hp
        have HF : Hid ((k : Int) = r) := hide (HV.out ▸ (idx_some HX.out hp HA.out).symm)
        clear hp
        go_wp2_with (go_at_call 40; refine (HC.out x HM.out _ true HW.out HS.out).mono ?_; rintro e w3 ⟨rfl, ho3⟩; have HO3 := hide ho3; clear ho3)
        go_ret
        exact ⟨ret_int HF.out, HW.out.trans HO3.out⟩
    · have HF : Hid (-1 = r) := hide (HV.out ▸ (idx_none (p := p) (fun j x hx => HA.out j x (by have := (List.getElem?_eq_some_iff.1 hx).1; omega) hx)).symm)
      have i1 : ¬ (k : Int) < xs.length := by omega
      go_wp2
      go_ret
      exact ⟨ret_int HF.out, HW.out⟩

set_option maxRecDepth 100000 in
set_option maxHeartbeats 3200000 in
theorem idx48 (p : ByteArray → Bool) (xs : List (ByteArray)) (bc : Nat) (ad : Option Addr) (b off cap : Nat) (w : World) (h : Row w 1 dcl xs ad b off) (hl : xs.length ≤ 1048576)
    (hc : ∀ x ∈ xs, ∀ W v, Old w W → p x = v → Calls Try.prog 42 #[.string x, .pointer (some ⟨bc, 0, none⟩)] W fun e w' => e = .returned (.bool v) ∧ Old W w') (r : Int) (hr : idx p xs = r) :
    Calls Try.prog 48 #[.slice ad xs.length cap, .func (.func 42) #[] #[.pointer (some ⟨bc, 0, none⟩)]] w fun e w' => e = .returned (.int .i64 r) ∧ Old w w' := by
  have HV := hide hr
  have HR := hide h
  have HC := hide hc
  have e0 : (0 : Int) ≤ xs.length := by omega
  clear hr h hc
  go_enter Try.func48, Try.ntmps48
  go_wp2
  go_loopw [8] (fun i w' => ∃ k : Nat, k ≤ xs.length ∧ i = .int .i64 k ∧ (∀ j x, j < k → xs[j]? = some x → p x = false) ∧ Old w w') (fun i _ => xs.length - (intOf i).toNat)
  case atStart => exact ⟨0, Nat.zero_le _, rfl, by omega, Old.refl _⟩
  case round =>
    obtain ⟨k, hk, rfl, hall, hw⟩ := hrel
    have HW := hide hw
    have HA := hide hall
    clear hw hall
    by_cases hlt : k < xs.length
    · obtain ⟨x, hx⟩ : ∃ x, xs[k]? = some x := ⟨_, List.getElem?_eq_getElem hlt⟩
      have HX := hide hx
      have R := HR.out.old HW.out
      have i1 : (k : Int) < xs.length := by omega
      obtain rfl := R.at_ (by omega)
      have x0 : wr.cell? ⟨b, off + k, none⟩ = some (.string x) := by have := R.cell k x hx 0 _ rfl; simpa using this
      have HM := hide (List.mem_of_getElem? hx)
      clear R hx
      cases hp : p x
      · have HS := hide hp
        clear hp
        go_wp2_with (go_at_call 42; refine (HC.out x HM.out _ false HW.out HS.out).mono ?_; rintro e w3 ⟨rfl, ho3⟩; have HO3 := hide ho3; clear ho3)
        go_roundw
        case rel =>
          refine ⟨k + 1, by omega, by go_num, ?_, HW.out.trans HO3.out⟩
          intro j y hj hy
          rcases Nat.lt_succ_iff_lt_or_eq.1 hj with h | rfl
          · exact HA.out j y h hy
          · rw [HX.out] at hy; cases hy; exact HS.out
        case measure => simp [intOf]; omega
      · have HS := hide hp
        have HF : Hid ((k : Int) = r) := hide (HV.out ▸ (idx_some HX.out hp HA.out).symm)
        clear hp
        go_wp2_with (go_at_call 42; refine (HC.out x HM.out _ true HW.out HS.out).mono ?_; rintro e w3 ⟨rfl, ho3⟩; have HO3 := hide ho3; clear ho3)
        go_ret
        exact ⟨ret_int HF.out, HW.out.trans HO3.out⟩
    · have HF : Hid (-1 = r) := hide (HV.out ▸ (idx_none (p := p) (fun j x hx => HA.out j x (by have := (List.getElem?_eq_some_iff.1 hx).1; omega) hx)).symm)
      have i1 : ¬ (k : Int) < xs.length := by omega
      go_wp2
      go_ret
      exact ⟨ret_int HF.out, HW.out⟩
end Go.Proofs.Qxb6609239a.R
