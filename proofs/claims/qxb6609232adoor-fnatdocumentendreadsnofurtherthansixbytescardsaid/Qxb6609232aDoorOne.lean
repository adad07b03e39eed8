import Derived.Test.Qxb6609232aDoorMain
namespace Go.Proofs.Qxb6609232aDoor.Str
open Go.RowKit
set_option linter.unusedVariables false
theorem Tab.below {w w' : World} (h : Tab w) (hb : Below w.heap.size w w') : Tab w' := by
  have h0 : 0 < w.heap.size := by
    have := h 0 (by omega)
    apply Nat.pos_of_ne_zero
    intro e
    simp [World.cell?, e] at this
  intro b hb'
  rw [hb.cell (p := ⟨0, b, none⟩) h0]
  exact h b hb'
theorem drewN_below {B : Nat} {w w' : World} (h : Below B w w') (n : Nat) : Below B w (w'.drewN n) := ⟨h.os, h.tape, h.output, h.size, h.block⟩
/-- the law's right hand -/
def want (s : ByteArray) (q : Nat) (la : Int) : Bool := decide (s.size ≤ q) || (decide ((q : Int) = la) && el (s.extract q s.size))
theorem zzAtEnd_v (v : Bool) (s : ByteArray) (b q : Nat) (r : Option Addr) (la : Int) (w : World) (hv : want s q la = v) (hT : Tab w) (hR : Rd w b s r q la) (hs : s.size ≤ 1048576) (hr : s.size ≤ q → r = none) :
    Calls Tryd.prog 13 #[.pointer (some ⟨b, 0, none⟩)] w fun e w' => e = .returned (.bool v) ∧ ∃ n, w' = w.drewN n := by
  subst hv; unfold want; rw [← ade_want]; exact zzAtEnd_calls s b q r la w hT hR hs hr
theorem endLine_v (v : Bool) (r : ByteArray) (w : World) (hv : el r = v) (hs : r.size ≤ 1048576) :
    Calls Tryd.prog 14 #[.string r] w fun e w' => e = .returned (.bool v) ∧ ∃ n, w' = w.drewN n := by
  subst hv; exact zzEndLine_calls r w hs
set_option maxHeartbeats 2000000 in
theorem one_none (s : ByteArray) (pos la : Int) (w : World) (hs : s.size ≤ maxLen) (hT : Tab w) :
    Calls Tryd.prog 5 #[.string s, .pointer none, .int .i64 pos, .int .i64 la] w fun e w' => e = .returned (.bool true) ∧ Below w.heap.size w w' := by
  have HS := hide hs
  have HT := hide hT
  unfold maxLen at hs
  clear hT
  cases hd : decide (s.size ≤ 1048576)
  · have h : (1048576 : Int) < s.size := by have := of_decide_eq_false hd; omega
    go_enter Tryd.func5, Tryd.ntmps5
    go_wp2_with (go_at_call 12; refine (bytes_none _ _ _ _ HS.out).mono ?_; rintro e w' ⟨rfl, rfl⟩)
    go_ret
    exact ⟨rfl, Below.refl _ _⟩
  have h : s.size ≤ 1048576 := of_decide_eq_true hd
  have h' : (s.size : Int) ≤ 1048576 := by omega
  by_cases hp : pos < 0
  · go_enter Tryd.func5, Tryd.ntmps5
    go_wp2_with (go_at_call 12; refine (bytes_none _ _ _ _ HS.out).mono ?_; rintro e w' ⟨rfl, rfl⟩)
    go_ret
    exact ⟨rfl, Below.refl _ _⟩
  obtain ⟨q, rfl⟩ := Int.eq_ofNat_of_zero_le (show 0 ≤ pos by omega)
  have hp' : (0 : Int) ≤ q := by omega
  clear hp
  by_cases hge : s.size ≤ q
  · have Hw : Hid (want s q la = true) := hide (by unfold want; rw [decide_eq_true hge]; rfl)
    have hge' : (s.size : Int) ≤ q := by omega
    go_enter Tryd.func5, Tryd.ntmps5
    go_wp2_with (first
      | (go_at_call 12; refine (bytes_none _ _ _ _ HS.out).mono ?_; rintro e w' ⟨rfl, rfl⟩)
      | (go_at_call 8; refine (newReader_calls _ _ _ _ _).mono ?_; rintro e w1 ⟨rfl, hb, hR, hz⟩; have HB := hide hb; have HR := hide hR; clear hb hR)
      | (go_at_call 13; refine (zzAtEnd_v _ s _ q _ la _ Hw.out (HT.out.below HB.out) HR.out h (fun _ => rfl)).mono ?_; rintro e w2 ⟨rfl, n, rfl⟩))
    go_ret
    exact ⟨rfl, drewN_below HB.out _⟩
  have hlt' : (q : Int) < s.size := by omega
  have Hr : Hid (s.size ≤ q → (none : Option Addr) = none) := hide (fun _ => rfl)
  by_cases hl : (q : Int) = la
  · have hsz : (s.extract q s.size).size ≤ 1048576 := by rw [ByteArray.size_extract]; omega
    have hl' : ((q : Int) == la) = true := beq_iff_eq.2 hl
    cases he : el (s.extract q s.size)
    all_goals
      have Hw := hide (show want s q la = el (s.extract q s.size) by unfold want; rw [decide_eq_false hge, decide_eq_true hl]; simp)
      rw [he] at Hw
      have HE := hide he
      clear hl he
      go_enter Tryd.func5, Tryd.ntmps5
      go_wp2_with (first
        | (go_at_call 12; refine (bytes_none _ _ _ _ HS.out).mono ?_; rintro e w' ⟨rfl, rfl⟩)
        | (go_at_call 8; refine (newReader_calls _ _ _ _ _).mono ?_; rintro e w1 ⟨rfl, hb, hR, hz⟩; have HB := hide hb; have HR := hide hR; clear hb hR)
        | (go_at_call 13; refine (zzAtEnd_v _ s _ q _ la _ Hw.out (HT.out.below HB.out) HR.out h (fun _ => rfl)).mono ?_; rintro e w2 ⟨rfl, n, rfl⟩)
        | (go_at_call 14; refine (endLine_v _ _ _ HE.out hsz).mono ?_; rintro e w3 ⟨rfl, n, rfl⟩))
      go_ret
      exact ⟨rfl, by first | exact drewN_below (drewN_below HB.out _) _ | exact drewN_below HB.out _⟩
  · have hl' : ((q : Int) == la) = false := beq_eq_false_iff_ne.2 hl
    have Hw : Hid (want s q la = false) := hide (by unfold want; rw [decide_eq_false hge, decide_eq_false hl]; rfl)
    clear hl
    go_enter Tryd.func5, Tryd.ntmps5
    go_wp2_with (first
      | (go_at_call 12; refine (bytes_none _ _ _ _ HS.out).mono ?_; rintro e w' ⟨rfl, rfl⟩)
      | (go_at_call 8; refine (newReader_calls _ _ _ _ _).mono ?_; rintro e w1 ⟨rfl, hb, hR, hz⟩; have HB := hide hb; have HR := hide hR; clear hb hR)
      | (go_at_call 13; refine (zzAtEnd_v _ s _ q _ la _ Hw.out (HT.out.below HB.out) HR.out h (fun _ => rfl)).mono ?_; rintro e w2 ⟨rfl, n, rfl⟩))
    go_ret
    exact ⟨rfl, drewN_below HB.out _⟩
set_option maxHeartbeats 2000000 in
theorem one_some (s msg : ByteArray) (b off : Nat) (line pos la : Int) (w : World) (hs : s.size ≤ maxLen) (hm : msg.size ≤ maxLen)
    (c0 : w.cell? ⟨b, off, none⟩ = some (.int .i64 line)) (c1 : w.cell? ⟨b, off + 1, none⟩ = some (.string msg)) (hT : Tab w) :
    Calls Tryd.prog 5 #[.string s, .pointer (some ⟨b, off, none⟩), .int .i64 pos, .int .i64 la] w fun e w' => e = .returned (.bool true) ∧ Below w.heap.size w w' := by
  have HS := hide hs
  have HM := hide hm
  have HT := hide hT
  unfold maxLen at hs hm
  clear hT
  cases hd : decide (s.size + msg.size ≤ 1048576)
  · have h : 1048576 < s.size + msg.size := by have := of_decide_eq_false hd; omega
    go_enter Tryd.func5, Tryd.ntmps5
    go_wp2_with (go_at_call 12; refine (bytes_some s msg b off line _ _ _ HS.out HM.out c0 c1).mono ?_; rintro e w' ⟨rfl, rfl⟩)
    go_ret
    exact ⟨rfl, Below.refl _ _⟩
  have h : s.size + msg.size ≤ 1048576 := of_decide_eq_true hd
  have hs1 : s.size ≤ 1048576 := by omega
  have h1 : (s.size : Int) ≤ 1048576 := by omega
  have h2 : (msg.size : Int) ≤ 1048576 := by omega
  have h3 : (s.size : Int) + msg.size ≤ 1048576 := by omega
  by_cases hp : pos < 0
  · go_enter Tryd.func5, Tryd.ntmps5
    go_wp2_with (go_at_call 12; refine (bytes_some s msg b off line _ _ _ HS.out HM.out c0 c1).mono ?_; rintro e w' ⟨rfl, rfl⟩)
    go_ret
    exact ⟨rfl, Below.refl _ _⟩
  obtain ⟨q, rfl⟩ := Int.eq_ofNat_of_zero_le (show 0 ≤ pos by omega)
  have hp' : (0 : Int) ≤ q := by omega
  clear hp
  by_cases hge : s.size ≤ q
  · have hge' : (s.size : Int) ≤ q := by omega
    go_enter Tryd.func5, Tryd.ntmps5
    go_wp2_with (go_at_call 12; refine (bytes_some s msg b off line _ _ _ HS.out HM.out c0 c1).mono ?_; rintro e w' ⟨rfl, rfl⟩)
    go_ret
    exact ⟨rfl, Below.refl _ _⟩
  have hlt' : (q : Int) < s.size := by omega
  by_cases hl : (q : Int) = la
  · have hsz : (s.extract q s.size).size ≤ 1048576 := by rw [ByteArray.size_extract]; omega
    have hl' : ((q : Int) == la) = true := beq_iff_eq.2 hl
    cases he : el (s.extract q s.size)
    all_goals
      have Hw := hide (show want s q la = el (s.extract q s.size) by unfold want; rw [decide_eq_false hge, decide_eq_true hl]; simp)
      rw [he] at Hw
      have HE := hide he
      clear hl he
      go_enter Tryd.func5, Tryd.ntmps5
      go_wp2_with (first
        | (go_at_call 12; refine (bytes_some s msg b off line _ _ _ HS.out HM.out c0 c1).mono ?_; rintro e w' ⟨rfl, rfl⟩)
        | (go_at_call 8; refine (newReader_calls _ _ _ _ _).mono ?_; rintro e w1 ⟨rfl, hb, hR, hz⟩; have HB := hide (((Below.refl _ _).alloc (Nat.le_refl _) _).trans (hb.mono (by simp))); simp at hR; have HR := hide hR; clear hb hR hz)
        | (go_at_call 13; refine (zzAtEnd_v _ s _ q _ la _ Hw.out (HT.out.below HB.out) HR.out hs1 (fun hh => absurd hh hge)).mono ?_; rintro e w2 ⟨rfl, n, rfl⟩)
        | (go_at_call 14; refine (endLine_v _ _ _ HE.out hsz).mono ?_; rintro e w3 ⟨rfl, n, rfl⟩))
      go_ret
      exact ⟨rfl, by first | exact drewN_below (drewN_below HB.out _) _ | exact drewN_below HB.out _⟩
  · have hl' : ((q : Int) == la) = false := beq_eq_false_iff_ne.2 hl
    have Hw : Hid (want s q la = false) := hide (by unfold want; rw [decide_eq_false hge, decide_eq_false hl]; rfl)
    clear hl
    go_enter Tryd.func5, Tryd.ntmps5
    go_wp2_with (first
      | (go_at_call 12; refine (bytes_some s msg b off line _ _ _ HS.out HM.out c0 c1).mono ?_; rintro e w' ⟨rfl, rfl⟩)
      | (go_at_call 8; refine (newReader_calls _ _ _ _ _).mono ?_; rintro e w1 ⟨rfl, hb, hR, hz⟩; have HB := hide (((Below.refl _ _).alloc (Nat.le_refl _) _).trans (hb.mono (by simp))); simp at hR; have HR := hide hR; clear hb hR hz)
      | (go_at_call 13; refine (zzAtEnd_v _ s _ q _ la _ Hw.out (HT.out.below HB.out) HR.out hs1 (fun hh => absurd hh hge)).mono ?_; rintro e w2 ⟨rfl, n, rfl⟩))
    go_ret
    exact ⟨rfl, drewN_below HB.out _⟩
end Go.Proofs.Qxb6609232aDoor.Str
