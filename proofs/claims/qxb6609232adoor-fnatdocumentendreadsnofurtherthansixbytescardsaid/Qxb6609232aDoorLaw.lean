import Derived.Test.Qxb6609232aDoorEnd
import Derived.Test.Qxb6609232aDoorRows
import Derived.Deep.RegionWith
namespace Go.Proofs.Qxb6609232aDoor.Str
open Go.RowKit
set_option linter.unusedVariables false
/-- what atDocumentEnd answers -/
def ade (s : ByteArray) (q : Nat) (la : Int) : Bool :=
  decide (s.size ≤ q) || am s q la ⟨#[45, 45, 45]⟩ || am s q la ⟨#[46, 46, 46]⟩ || (decide ((q : Int) = la) && decide (bt s q = 37))
theorem end_v (v : Bool) (s : ByteArray) (b q : Nat) (r : Option Addr) (la : Int) (w : World) (hv : decide (s.size ≤ q) = v) (hR : Rd w b s r q la) (hs : s.size ≤ 1048576) (hr : s.size ≤ q → r = none) :
    Calls Tryd.prog 22 #[.pointer (some ⟨b, 0, none⟩)] w fun e w' => e = .returned (.bool v) ∧ ∃ n, w' = w.drewN n := by
  subst hv; exact end_calls s b q r la w hR hs hr
theorem atMarker_v (v : Bool) (s m : ByteArray) (b q : Nat) (r : Option Addr) (la : Int) (w : World) (hv : am s q la m = v) (hT : Tab w) (hR : Rd w b s r q la) (hs : s.size ≤ 1048576) (hm : m.size ≤ 1048576) (hq : q ≤ s.size) :
    Calls Tryd.prog 16 #[.pointer (some ⟨b, 0, none⟩), .string m] w fun e w' => e = .returned (.bool v) ∧ ∃ n, w' = w.drewN n := by
  subst hv; exact atMarker_calls s m b q r la w hT hR hs hm hq
set_option maxHeartbeats 1000000 in
theorem atDocumentEnd_calls (s : ByteArray) (b q : Nat) (r : Option Addr) (la : Int) (w : World) (hT : Tab w) (hR : Rd w b s r q la) (hs : s.size ≤ 1048576) (hr : s.size ≤ q → r = none) :
    Calls Tryd.prog 19 #[.pointer (some ⟨b, 0, none⟩)] w fun e w' => e = .returned (.bool (ade s q la)) ∧ ∃ n, w' = w.drewN n := by
  have c0 := hR.c0
  have c2 := hR.c2
  have c4 := hR.c4
  have HR := hide hR
  have HT := hide hT
  have Hr := hide hr
  clear hR hT hr
  have HA : Hid (ade s q la = (decide (s.size ≤ q) || am s q la ⟨#[45, 45, 45]⟩ || am s q la ⟨#[46, 46, 46]⟩ || (decide ((q : Int) = la) && decide (bt s q = 37)))) := hide rfl
  cases h : decide (s.size ≤ q)
  · have hlt : q < s.size := by have := of_decide_eq_false h; omega
    have hlt' : (q : Int) < s.size := by omega
    have E := bt_in s q hlt
    rw [h] at HA
    have H0 := hide h
    clear h
    cases a1 : am s q la ⟨#[45, 45, 45]⟩
    · rw [a1] at HA
      have H1 := hide a1
      clear a1
      cases a2 : am s q la ⟨#[46, 46, 46]⟩
      · rw [a2] at HA
        have H2 := hide a2
        clear a2
        by_cases hp : (q : Int) = la
        · have hd : ((q : Int) == la) = true := beq_iff_eq.2 hp
          rw [decide_eq_true hp] at HA
          clear hp
          by_cases h37 : bt s q = 37
          · rw [decide_eq_true h37] at HA
            have h37' : ((s[q].toNat : Int) == 37) = true := by rw [← E, h37]; rfl
            clear E h37
            go_enter Tryd.func19, Tryd.ntmps19
            go_wp2
            go_quiet (first | (go_at_call 22; exact Calls.quiet_of (end_v _ s b q r la _ H0.out (HR.out.drewN _) hs Hr.out)) | (go_at_call_of 16 (Value.string ⟨#[45, 45, 45]⟩); exact Calls.quiet_of (atMarker_v _ s _ b q r la _ H1.out HT.out (HR.out.drewN _) hs (lit_le (by decide)) (Nat.le_of_lt hlt))) | (go_at_call_of 16 (Value.string ⟨#[46, 46, 46]⟩); exact Calls.quiet_of (atMarker_v _ s _ b q r la _ H2.out HT.out (HR.out.drewN _) hs (lit_le (by decide)) (Nat.le_of_lt hlt))))
            go_wp2
            go_ret
            exact ⟨ret_bool HA.out.symm, _, by first | rfl | (simp only [World.drewN_drewN]; rfl)⟩
          · rw [decide_eq_false h37] at HA
            have h37' : ((s[q].toNat : Int) == 37) = false := beq_eq_false_iff_ne.2 (by rw [← E]; omega)
            clear E h37
            go_enter Tryd.func19, Tryd.ntmps19
            go_wp2
            go_quiet (first | (go_at_call 22; exact Calls.quiet_of (end_v _ s b q r la _ H0.out (HR.out.drewN _) hs Hr.out)) | (go_at_call_of 16 (Value.string ⟨#[45, 45, 45]⟩); exact Calls.quiet_of (atMarker_v _ s _ b q r la _ H1.out HT.out (HR.out.drewN _) hs (lit_le (by decide)) (Nat.le_of_lt hlt))) | (go_at_call_of 16 (Value.string ⟨#[46, 46, 46]⟩); exact Calls.quiet_of (atMarker_v _ s _ b q r la _ H2.out HT.out (HR.out.drewN _) hs (lit_le (by decide)) (Nat.le_of_lt hlt))))
            go_wp2
            go_ret
            exact ⟨ret_bool HA.out.symm, _, by first | rfl | (simp only [World.drewN_drewN]; rfl)⟩
        · have hd : ((q : Int) == la) = false := beq_eq_false_iff_ne.2 hp
          rw [decide_eq_false hp] at HA
          clear hp E
          go_enter Tryd.func19, Tryd.ntmps19
          go_wp2
          go_quiet (first | (go_at_call 22; exact Calls.quiet_of (end_v _ s b q r la _ H0.out (HR.out.drewN _) hs Hr.out)) | (go_at_call_of 16 (Value.string ⟨#[45, 45, 45]⟩); exact Calls.quiet_of (atMarker_v _ s _ b q r la _ H1.out HT.out (HR.out.drewN _) hs (lit_le (by decide)) (Nat.le_of_lt hlt))) | (go_at_call_of 16 (Value.string ⟨#[46, 46, 46]⟩); exact Calls.quiet_of (atMarker_v _ s _ b q r la _ H2.out HT.out (HR.out.drewN _) hs (lit_le (by decide)) (Nat.le_of_lt hlt))))
          go_wp2
          go_ret
          exact ⟨ret_bool HA.out.symm, _, by first | rfl | (simp only [World.drewN_drewN]; rfl)⟩
      · rw [a2] at HA
        have H2 := hide a2
        clear a2
        clear E
        go_enter Tryd.func19, Tryd.ntmps19
        go_wp2
        go_quiet (first | (go_at_call 22; exact Calls.quiet_of (end_v _ s b q r la _ H0.out (HR.out.drewN _) hs Hr.out)) | (go_at_call_of 16 (Value.string ⟨#[45, 45, 45]⟩); exact Calls.quiet_of (atMarker_v _ s _ b q r la _ H1.out HT.out (HR.out.drewN _) hs (lit_le (by decide)) (Nat.le_of_lt hlt))) | (go_at_call_of 16 (Value.string ⟨#[46, 46, 46]⟩); exact Calls.quiet_of (atMarker_v _ s _ b q r la _ H2.out HT.out (HR.out.drewN _) hs (lit_le (by decide)) (Nat.le_of_lt hlt))))
        go_wp2
        go_ret
        exact ⟨ret_bool HA.out.symm, _, by first | rfl | (simp only [World.drewN_drewN]; rfl)⟩
    · rw [a1] at HA
      have H1 := hide a1
      clear a1
      clear E
      go_enter Tryd.func19, Tryd.ntmps19
      go_wp2
      go_quiet (first | (go_at_call 22; exact Calls.quiet_of (end_v _ s b q r la _ H0.out (HR.out.drewN _) hs Hr.out)) | (go_at_call_of 16 (Value.string ⟨#[45, 45, 45]⟩); exact Calls.quiet_of (atMarker_v _ s _ b q r la _ H1.out HT.out (HR.out.drewN _) hs (lit_le (by decide)) (Nat.le_of_lt hlt))) | (go_at_call_of 16 (Value.string ⟨#[46, 46, 46]⟩); exact Calls.quiet_of (atMarker_v _ s _ b q r la _ H2.out HT.out (HR.out.drewN _) hs (lit_le (by decide)) (Nat.le_of_lt hlt))))
      go_wp2
      go_ret
      exact ⟨ret_bool HA.out.symm, _, by first | rfl | (simp only [World.drewN_drewN]; rfl)⟩
  · rw [h] at HA
    have H0 := hide h
    clear h
    go_enter Tryd.func19, Tryd.ntmps19
    go_wp2
    go_quiet ((go_at_call 22; exact Calls.quiet_of (end_v _ s b q r la _ H0.out (HR.out.drewN _) hs Hr.out)))
    go_wp2
    go_ret
    exact ⟨ret_bool HA.out.symm, _, by first | rfl | (simp only [World.drewN_drewN]; rfl)⟩
end Go.Proofs.Qxb6609232aDoor.Str
