import Derived.Test.Qxb6609232aDoorOne
namespace Go.Proofs.Qxb6609232aDoor.Str
open Go.RowKit
set_option linter.unusedVariables false
/-! ### the plain law: six bytes are enough -/
theorem bbf_cut (s : ByteArray) (q : Nat) (h : q + 6 < s.size) : bbf (s.extract 0 (q + 6)) (q + 3) = bbf s (q + 3) := by
  have hsz : (s.extract 0 (q + 6)).size = q + 6 := by rw [ByteArray.size_extract]; omega
  unfold bbf
  rw [bt_cut s _ _ (by omega) (by omega), bt_cut s _ _ (by omega) (by omega), bt_cut s _ _ (by omega) (by omega), hsz,
    decide_eq_false (p := q + 6 ≤ q + 3) (by omega), decide_eq_false (p := s.size ≤ q + 3) (by omega)]
theorem ade_cut (s : ByteArray) (q : Nat) (la : Int) (h : q + 6 < s.size) : ade (s.extract 0 (q + 6)) q la = ade s q la := by
  have hsz : (s.extract 0 (q + 6)).size = q + 6 := by rw [ByteArray.size_extract]; omega
  have e1 : ∀ a b c : UInt8, am (s.extract 0 (q + 6)) q la ⟨#[a, b, c]⟩ = am s q la ⟨#[a, b, c]⟩ := by
    intro a b c
    unfold am
    rw [pfx3, pfx3, bt_extract, bt_extract, bt_extract, bt_extract, bt_extract, bt_extract, bbf_cut s q h,
      bt_cut s _ _ (by omega) (by omega), bt_cut s _ _ (by omega) (by omega), bt_cut s _ _ (by omega) (by omega)]
  unfold ade
  rw [e1, e1, hsz, bt_cut s _ _ (by omega) (by omega), decide_eq_false (p := q + 6 ≤ q) (by omega), decide_eq_false (p := s.size ≤ q) (by omega)]
theorem want_cut (s : ByteArray) (q : Nat) (la : Int) (h : q + 6 < s.size) : want (s.extract 0 (q + 6)) q la = want s q la := by
  unfold want; rw [← ade_want, ← ade_want]; exact ade_cut s q la h
/-! ### the bounds (function 15) -/
theorem bytes2_none (s : ByteArray) (pos la : Int) (w : World) (hs : s.size ≤ maxLen) :
    Calls Tryd.prog 15 #[.string s, .pointer none, .int .i64 pos, .int .i64 la] w fun e w' => e = .returned (.bool (decide (s.size ≤ 1048576))) ∧ w' = w := by
  unfold maxLen at hs
  by_cases h : s.size ≤ 1048576
  · have H : Hid (true = decide (s.size ≤ 1048576)) := hide (by rw [decide_eq_true h])
    have h' : (s.size : Int) ≤ 1048576 := by omega
    go_enter Tryd.func15, Tryd.ntmps15
    go_wp2
    go_ret
    exact ⟨ret_bool H.out, rfl⟩
  · have H : Hid (false = decide (s.size ≤ 1048576)) := hide (by rw [decide_eq_false h])
    have h' : (1048576 : Int) < s.size := by omega
    go_enter Tryd.func15, Tryd.ntmps15
    go_wp2
    go_ret
    exact ⟨ret_bool H.out, rfl⟩
theorem bytes2_some (s msg : ByteArray) (b off : Nat) (line pos la : Int) (w : World) (hs : s.size ≤ maxLen) (hm : msg.size ≤ maxLen)
    (c0 : w.cell? ⟨b, off, none⟩ = some (.int .i64 line)) (c1 : w.cell? ⟨b, off + 1, none⟩ = some (.string msg)) :
    Calls Tryd.prog 15 #[.string s, .pointer (some ⟨b, off, none⟩), .int .i64 pos, .int .i64 la] w fun e w' => e = .returned (.bool (decide (s.size + msg.size ≤ 1048576))) ∧ w' = w := by
  unfold maxLen at hs hm
  by_cases h : s.size ≤ 1048576
  · have h' : (s.size : Int) ≤ 1048576 := by omega
    by_cases h2 : msg.size ≤ 1048576
    · have h2' : (msg.size : Int) ≤ 1048576 := by omega
      by_cases h3 : s.size + msg.size ≤ 1048576
      · have H : Hid (true = decide (s.size + msg.size ≤ 1048576)) := hide (by rw [decide_eq_true h3])
        have h3' : (s.size : Int) + msg.size ≤ 1048576 := by omega
        go_enter Tryd.func15, Tryd.ntmps15
        go_wp2
        go_ret
        exact ⟨ret_bool H.out, rfl⟩
      · have H : Hid (false = decide (s.size + msg.size ≤ 1048576)) := hide (by rw [decide_eq_false h3])
        have h3' : (1048576 : Int) < s.size + msg.size := by omega
        go_enter Tryd.func15, Tryd.ntmps15
        go_wp2
        go_ret
        exact ⟨ret_bool H.out, rfl⟩
    · have H : Hid (false = decide (s.size + msg.size ≤ 1048576)) := hide (by rw [decide_eq_false (by omega)])
      have h2' : (1048576 : Int) < msg.size := by omega
      go_enter Tryd.func15, Tryd.ntmps15
      go_wp2
      go_ret
      exact ⟨ret_bool H.out, rfl⟩
  · have H : Hid (false = decide (s.size + msg.size ≤ 1048576)) := hide (by rw [decide_eq_false (by omega)])
    have h' : (1048576 : Int) < s.size := by omega
    go_enter Tryd.func15, Tryd.ntmps15
    go_wp2
    go_ret
    exact ⟨ret_bool H.out, rfl⟩
set_option maxHeartbeats 2000000 in
theorem two_none (s : ByteArray) (pos la : Int) (w : World) (hs : s.size ≤ maxLen) (hT : Tab w) :
    Calls Tryd.prog 6 #[.string s, .pointer none, .int .i64 pos, .int .i64 la] w fun e w' => e = .returned (.bool true) ∧ Below w.heap.size w w' := by
  have HS := hide hs
  have HT := hide hT
  unfold maxLen at hs
  clear hT
  cases hd : decide (s.size ≤ 1048576)
  · have h : (1048576 : Int) < s.size := by have := of_decide_eq_false hd; omega
    go_enter Tryd.func6, Tryd.ntmps6
    go_wp2_with (go_at_call 15; refine (bytes2_none _ _ _ _ HS.out).mono ?_; rintro e w' ⟨rfl, rfl⟩)
    go_ret
    exact ⟨rfl, Below.refl _ _⟩
  have h : s.size ≤ 1048576 := of_decide_eq_true hd
  have h' : (s.size : Int) ≤ 1048576 := by omega
  by_cases hp : pos < 0
  · go_enter Tryd.func6, Tryd.ntmps6
    go_wp2_with (go_at_call 15; refine (bytes2_none _ _ _ _ HS.out).mono ?_; rintro e w' ⟨rfl, rfl⟩)
    go_ret
    exact ⟨rfl, Below.refl _ _⟩
  obtain ⟨q, rfl⟩ := Int.eq_ofNat_of_zero_le (show 0 ≤ pos by omega)
  have hp' : (0 : Int) ≤ q := by omega
  clear hp
  by_cases hge : s.size ≤ q
  · have Hw : Hid (want s q la = true) := hide (by unfold want; rw [decide_eq_true hge]; rfl)
    have hge' : (s.size : Int) ≤ q := by omega
    go_enter Tryd.func6, Tryd.ntmps6
    go_wp2_with (go_at_call 15; refine (bytes2_none _ _ _ _ HS.out).mono ?_; rintro e w' ⟨rfl, rfl⟩)
    refine (newReader_calls _ _ _ _ _).mono ?_
    rintro e w1 ⟨rfl, hb, hR, hz⟩
    have HB := hide hb; have HR := hide hR; clear hb hR hz
    go_wp2_with fail
    refine (zzAtEnd_v _ s _ q _ la _ Hw.out (HT.out.below HB.out) HR.out h (fun _ => rfl)).mono ?_
    rintro e w2 ⟨rfl, n, rfl⟩
    go_wp2_with fail
    refine (newReader_calls _ _ _ _ _).mono ?_
    rintro e w3 ⟨rfl, hb, hR, hz⟩
    have HB2 := hide ((drewN_below HB.out n).trans (hb.mono HB.out.size)); have HR2 := hide hR; clear hb hR hz
    go_wp2_with fail
    refine (zzAtEnd_v _ s _ q _ la _ Hw.out (HT.out.below HB2.out) HR2.out h (fun _ => rfl)).mono ?_
    rintro e w4 ⟨rfl, n2, rfl⟩
    go_wp2_with fail
    go_ret
    exact ⟨rfl, by first | exact drewN_below (drewN_below HB2.out _) _ | exact drewN_below HB2.out _⟩
  have hlt' : (q : Int) < s.size := by omega
  have hltd : decide ((q : Int) < s.size) = true := decide_eq_true hlt'
  by_cases hcut : q + 6 < s.size
  · have hcut' : (6 : Int) < s.size - q := by omega
    have hc6 : (q : Int) + 6 ≤ s.size := by omega
    have hsz2 : (s.extract 0 (q + 6)).size ≤ 1048576 := by rw [ByteArray.size_extract]; omega
    have hge2 : ¬ (s.extract 0 (q + 6)).size ≤ q := by rw [ByteArray.size_extract]; omega
    have HWC := hide (want_cut s q la hcut)
    by_cases hl : (q : Int) = la
    · have hsz : (s.extract q s.size).size ≤ 1048576 := by rw [ByteArray.size_extract]; omega
      have hl' : ((q : Int) == la) = true := beq_iff_eq.2 hl
      cases he : el (s.extract q s.size)
      all_goals
        have Hw := hide (show want s q la = el (s.extract q s.size) by unfold want; rw [decide_eq_false hge, decide_eq_true hl]; simp)
        rw [he] at Hw
        have HE := hide he
        clear hl he
        go_enter Tryd.func6, Tryd.ntmps6
        go_wp2_with (go_at_call 15; refine (bytes2_none _ _ _ _ HS.out).mono ?_; rintro e w' ⟨rfl, rfl⟩)
        refine (newReader_calls _ _ _ _ _).mono ?_
        rintro e w1 ⟨rfl, hb, hR, hz⟩
        have HB := hide hb; have HR := hide hR; clear hb hR hz
        go_wp2_with fail
        refine (zzAtEnd_v _ s _ q _ la _ Hw.out (HT.out.below HB.out) HR.out h (fun _ => rfl)).mono ?_
        rintro e w2 ⟨rfl, n, rfl⟩
        go_wp2_with fail
        refine (newReader_calls _ _ _ _ _).mono ?_
        rintro e w3 ⟨rfl, hb, hR, hz⟩
        have HB2 := hide ((drewN_below HB.out n).trans (hb.mono HB.out.size)); have HR2 := hide hR; clear hb hR hz
        go_wp2_with fail
        refine (zzAtEnd_v _ (s.extract 0 (q + 6)) _ q _ la _ (HWC.out.trans Hw.out) (HT.out.below HB2.out) HR2.out hsz2 (fun _ => rfl)).mono ?_
        rintro e w4 ⟨rfl, n2, rfl⟩
        go_wp2_with (go_at_call 14; refine (endLine_v _ _ _ HE.out hsz).mono ?_; rintro e w5 ⟨rfl, n3, rfl⟩)
        go_ret
        exact ⟨rfl, by first | exact drewN_below (drewN_below HB2.out _) _ | exact drewN_below HB2.out _⟩
    · have hl' : ((q : Int) == la) = false := beq_eq_false_iff_ne.2 hl
      have Hw : Hid (want s q la = false) := hide (by unfold want; rw [decide_eq_false hge, decide_eq_false hl]; rfl)
      clear hl
      go_enter Tryd.func6, Tryd.ntmps6
      go_wp2_with (go_at_call 15; refine (bytes2_none _ _ _ _ HS.out).mono ?_; rintro e w' ⟨rfl, rfl⟩)
      refine (newReader_calls _ _ _ _ _).mono ?_
      rintro e w1 ⟨rfl, hb, hR, hz⟩
      have HB := hide hb; have HR := hide hR; clear hb hR hz
      go_wp2_with fail
      refine (zzAtEnd_v _ s _ q _ la _ Hw.out (HT.out.below HB.out) HR.out h (fun _ => rfl)).mono ?_
      rintro e w2 ⟨rfl, n, rfl⟩
      go_wp2_with fail
      refine (newReader_calls _ _ _ _ _).mono ?_
      rintro e w3 ⟨rfl, hb, hR, hz⟩
      have HB2 := hide ((drewN_below HB.out n).trans (hb.mono HB.out.size)); have HR2 := hide hR; clear hb hR hz
      go_wp2_with fail
      refine (zzAtEnd_v _ (s.extract 0 (q + 6)) _ q _ la _ (HWC.out.trans Hw.out) (HT.out.below HB2.out) HR2.out hsz2 (fun _ => rfl)).mono ?_
      rintro e w4 ⟨rfl, n2, rfl⟩
      go_wp2_with fail
      go_ret
      exact ⟨rfl, by first | exact drewN_below (drewN_below HB2.out _) _ | exact drewN_below HB2.out _⟩
  · have hcut' : s.size - (q : Int) ≤ 6 := by omega
    have hge2 := hge
    by_cases hl : (q : Int) = la
    · have hsz : (s.extract q s.size).size ≤ 1048576 := by rw [ByteArray.size_extract]; omega
      have hl' : ((q : Int) == la) = true := beq_iff_eq.2 hl
      cases he : el (s.extract q s.size)
      all_goals
        have Hw := hide (show want s q la = el (s.extract q s.size) by unfold want; rw [decide_eq_false hge, decide_eq_true hl]; simp)
        rw [he] at Hw
        have HE := hide he
        clear hl he
        go_enter Tryd.func6, Tryd.ntmps6
        go_wp2_with (go_at_call 15; refine (bytes2_none _ _ _ _ HS.out).mono ?_; rintro e w' ⟨rfl, rfl⟩)
        refine (newReader_calls _ _ _ _ _).mono ?_
        rintro e w1 ⟨rfl, hb, hR, hz⟩
        have HB := hide hb; have HR := hide hR; clear hb hR hz
        go_wp2_with fail
        refine (zzAtEnd_v _ s _ q _ la _ Hw.out (HT.out.below HB.out) HR.out h (fun _ => rfl)).mono ?_
        rintro e w2 ⟨rfl, n, rfl⟩
        go_wp2_with fail
        refine (newReader_calls _ _ _ _ _).mono ?_
        rintro e w3 ⟨rfl, hb, hR, hz⟩
        have HB2 := hide ((drewN_below HB.out n).trans (hb.mono HB.out.size)); have HR2 := hide hR; clear hb hR hz
        go_wp2_with fail
        refine (zzAtEnd_v _ s _ q _ la _ Hw.out (HT.out.below HB2.out) HR2.out h (fun _ => rfl)).mono ?_
        rintro e w4 ⟨rfl, n2, rfl⟩
        go_wp2_with (go_at_call 14; refine (endLine_v _ _ _ HE.out hsz).mono ?_; rintro e w5 ⟨rfl, n3, rfl⟩)
        go_ret
        exact ⟨rfl, by first | exact drewN_below (drewN_below HB2.out _) _ | exact drewN_below HB2.out _⟩
    · have hl' : ((q : Int) == la) = false := beq_eq_false_iff_ne.2 hl
      have Hw : Hid (want s q la = false) := hide (by unfold want; rw [decide_eq_false hge, decide_eq_false hl]; rfl)
      clear hl
      go_enter Tryd.func6, Tryd.ntmps6
      go_wp2_with (go_at_call 15; refine (bytes2_none _ _ _ _ HS.out).mono ?_; rintro e w' ⟨rfl, rfl⟩)
      refine (newReader_calls _ _ _ _ _).mono ?_
      rintro e w1 ⟨rfl, hb, hR, hz⟩
      have HB := hide hb; have HR := hide hR; clear hb hR hz
      go_wp2_with fail
      refine (zzAtEnd_v _ s _ q _ la _ Hw.out (HT.out.below HB.out) HR.out h (fun _ => rfl)).mono ?_
      rintro e w2 ⟨rfl, n, rfl⟩
      go_wp2_with fail
      refine (newReader_calls _ _ _ _ _).mono ?_
      rintro e w3 ⟨rfl, hb, hR, hz⟩
      have HB2 := hide ((drewN_below HB.out n).trans (hb.mono HB.out.size)); have HR2 := hide hR; clear hb hR hz
      go_wp2_with fail
      refine (zzAtEnd_v _ s _ q _ la _ Hw.out (HT.out.below HB2.out) HR2.out h (fun _ => rfl)).mono ?_
      rintro e w4 ⟨rfl, n2, rfl⟩
      go_wp2_with fail
      go_ret
      exact ⟨rfl, by first | exact drewN_below (drewN_below HB2.out _) _ | exact drewN_below HB2.out _⟩
set_option maxHeartbeats 2000000 in
theorem two_some (s msg : ByteArray) (b off : Nat) (line pos la : Int) (w : World) (hs : s.size ≤ maxLen) (hm : msg.size ≤ maxLen)
    (c0 : w.cell? ⟨b, off, none⟩ = some (.int .i64 line)) (c1 : w.cell? ⟨b, off + 1, none⟩ = some (.string msg)) (hT : Tab w) :
    Calls Tryd.prog 6 #[.string s, .pointer (some ⟨b, off, none⟩), .int .i64 pos, .int .i64 la] w fun e w' => e = .returned (.bool true) ∧ Below w.heap.size w w' := by
  have HS := hide hs
  have HM := hide hm
  have HT := hide hT
  unfold maxLen at hs hm
  clear hT
  cases hd : decide (s.size + msg.size ≤ 1048576)
  · have h : 1048576 < s.size + msg.size := by have := of_decide_eq_false hd; omega
    go_enter Tryd.func6, Tryd.ntmps6
    go_wp2_with (go_at_call 15; refine (bytes2_some s msg b off line _ _ _ HS.out HM.out c0 c1).mono ?_; rintro e w' ⟨rfl, rfl⟩)
    go_ret
    exact ⟨rfl, Below.refl _ _⟩
  have hsum : s.size + msg.size ≤ 1048576 := of_decide_eq_true hd
  have h : s.size ≤ 1048576 := by omega
  have h1 : (s.size : Int) ≤ 1048576 := by omega
  have h2 : (msg.size : Int) ≤ 1048576 := by omega
  have h3 : (s.size : Int) + msg.size ≤ 1048576 := by omega
  by_cases hp : pos < 0
  · go_enter Tryd.func6, Tryd.ntmps6
    go_wp2_with (go_at_call 15; refine (bytes2_some s msg b off line _ _ _ HS.out HM.out c0 c1).mono ?_; rintro e w' ⟨rfl, rfl⟩)
    go_ret
    exact ⟨rfl, Below.refl _ _⟩
  obtain ⟨q, rfl⟩ := Int.eq_ofNat_of_zero_le (show 0 ≤ pos by omega)
  have hp' : (0 : Int) ≤ q := by omega
  clear hp
  by_cases hge : s.size ≤ q
  · have hge' : (s.size : Int) ≤ q := by omega
    go_enter Tryd.func6, Tryd.ntmps6
    go_wp2_with (go_at_call 15; refine (bytes2_some s msg b off line _ _ _ HS.out HM.out c0 c1).mono ?_; rintro e w' ⟨rfl, rfl⟩)
    go_ret
    exact ⟨rfl, Below.refl _ _⟩
  have hlt' : (q : Int) < s.size := by omega
  have hltd : decide ((q : Int) < s.size) = true := decide_eq_true hlt'
  by_cases hcut : q + 6 < s.size
  · have hcut' : (6 : Int) < s.size - q := by omega
    have hc6 : (q : Int) + 6 ≤ s.size := by omega
    have hsz2 : (s.extract 0 (q + 6)).size ≤ 1048576 := by rw [ByteArray.size_extract]; omega
    have hge2 : ¬ (s.extract 0 (q + 6)).size ≤ q := by rw [ByteArray.size_extract]; omega
    have HWC := hide (want_cut s q la hcut)
    by_cases hl : (q : Int) = la
    · have hsz : (s.extract q s.size).size ≤ 1048576 := by rw [ByteArray.size_extract]; omega
      have hl' : ((q : Int) == la) = true := beq_iff_eq.2 hl
      cases he : el (s.extract q s.size)
      all_goals
        have Hw := hide (show want s q la = el (s.extract q s.size) by unfold want; rw [decide_eq_false hge, decide_eq_true hl]; simp)
        rw [he] at Hw
        have HE := hide he
        clear hl he
        go_enter Tryd.func6, Tryd.ntmps6
        go_wp2_with (go_at_call 15; refine (bytes2_some s msg b off line _ _ _ HS.out HM.out c0 c1).mono ?_; rintro e w' ⟨rfl, rfl⟩)
        refine (newReader_calls _ _ _ _ _).mono ?_
        rintro e w1 ⟨rfl, hb, hR, hz⟩
        have HB := hide (((Below.refl _ _).alloc (Nat.le_refl _) _).trans (hb.mono (by simp))); simp at hR; have HR := hide hR; clear hb hR hz
        go_wp2_with fail
        refine (zzAtEnd_v _ s _ q _ la _ Hw.out (HT.out.below HB.out) HR.out h (fun hh => absurd hh hge)).mono ?_
        rintro e w2 ⟨rfl, n, rfl⟩
        go_wp2_with fail
        refine (newReader_calls _ _ _ _ _).mono ?_
        rintro e w3 ⟨rfl, hb, hR, hz⟩
        have HB2 := hide ((drewN_below HB.out n).trans (hb.mono HB.out.size)); have HR2 := hide hR; clear hb hR hz
        go_wp2_with fail
        refine (zzAtEnd_v _ (s.extract 0 (q + 6)) _ q _ la _ (HWC.out.trans Hw.out) (HT.out.below HB2.out) HR2.out hsz2 (fun hh => absurd hh hge2)).mono ?_
        rintro e w4 ⟨rfl, n2, rfl⟩
        go_wp2_with (go_at_call 14; refine (endLine_v _ _ _ HE.out hsz).mono ?_; rintro e w5 ⟨rfl, n3, rfl⟩)
        go_ret
        exact ⟨rfl, by first | exact drewN_below (drewN_below HB2.out _) _ | exact drewN_below HB2.out _⟩
    · have hl' : ((q : Int) == la) = false := beq_eq_false_iff_ne.2 hl
      have Hw : Hid (want s q la = false) := hide (by unfold want; rw [decide_eq_false hge, decide_eq_false hl]; rfl)
      clear hl
      go_enter Tryd.func6, Tryd.ntmps6
      go_wp2_with (go_at_call 15; refine (bytes2_some s msg b off line _ _ _ HS.out HM.out c0 c1).mono ?_; rintro e w' ⟨rfl, rfl⟩)
      refine (newReader_calls _ _ _ _ _).mono ?_
      rintro e w1 ⟨rfl, hb, hR, hz⟩
      have HB := hide (((Below.refl _ _).alloc (Nat.le_refl _) _).trans (hb.mono (by simp))); simp at hR; have HR := hide hR; clear hb hR hz
      go_wp2_with fail
      refine (zzAtEnd_v _ s _ q _ la _ Hw.out (HT.out.below HB.out) HR.out h (fun hh => absurd hh hge)).mono ?_
      rintro e w2 ⟨rfl, n, rfl⟩
      go_wp2_with fail
      refine (newReader_calls _ _ _ _ _).mono ?_
      rintro e w3 ⟨rfl, hb, hR, hz⟩
      have HB2 := hide ((drewN_below HB.out n).trans (hb.mono HB.out.size)); have HR2 := hide hR; clear hb hR hz
      go_wp2_with fail
      refine (zzAtEnd_v _ (s.extract 0 (q + 6)) _ q _ la _ (HWC.out.trans Hw.out) (HT.out.below HB2.out) HR2.out hsz2 (fun hh => absurd hh hge2)).mono ?_
      rintro e w4 ⟨rfl, n2, rfl⟩
      go_wp2_with fail
      go_ret
      exact ⟨rfl, by first | exact drewN_below (drewN_below HB2.out _) _ | exact drewN_below HB2.out _⟩
  · have hcut' : s.size - (q : Int) ≤ 6 := by omega
    have hge2 := hge
    by_cases hl : (q : Int) = la
    · have hsz : (s.extract q s.size).size ≤ 1048576 := by rw [ByteArray.size_extract]; omega
      have hl' : ((q : Int) == la) = true := beq_iff_eq.2 hl
      cases he : el (s.extract q s.size)
      all_goals
        have Hw := hide (show want s q la = el (s.extract q s.size) by unfold want; rw [decide_eq_false hge, decide_eq_true hl]; simp)
        rw [he] at Hw
        have HE := hide he
        clear hl he
        go_enter Tryd.func6, Tryd.ntmps6
        go_wp2_with (go_at_call 15; refine (bytes2_some s msg b off line _ _ _ HS.out HM.out c0 c1).mono ?_; rintro e w' ⟨rfl, rfl⟩)
        refine (newReader_calls _ _ _ _ _).mono ?_
        rintro e w1 ⟨rfl, hb, hR, hz⟩
        have HB := hide (((Below.refl _ _).alloc (Nat.le_refl _) _).trans (hb.mono (by simp))); simp at hR; have HR := hide hR; clear hb hR hz
        go_wp2_with fail
        refine (zzAtEnd_v _ s _ q _ la _ Hw.out (HT.out.below HB.out) HR.out h (fun hh => absurd hh hge)).mono ?_
        rintro e w2 ⟨rfl, n, rfl⟩
        go_wp2_with fail
        refine (newReader_calls _ _ _ _ _).mono ?_
        rintro e w3 ⟨rfl, hb, hR, hz⟩
        have HB2 := hide ((drewN_below HB.out n).trans (hb.mono HB.out.size)); have HR2 := hide hR; clear hb hR hz
        go_wp2_with fail
        refine (zzAtEnd_v _ s _ q _ la _ Hw.out (HT.out.below HB2.out) HR2.out h (fun hh => absurd hh hge2)).mono ?_
        rintro e w4 ⟨rfl, n2, rfl⟩
        go_wp2_with (go_at_call 14; refine (endLine_v _ _ _ HE.out hsz).mono ?_; rintro e w5 ⟨rfl, n3, rfl⟩)
        go_ret
        exact ⟨rfl, by first | exact drewN_below (drewN_below HB2.out _) _ | exact drewN_below HB2.out _⟩
    · have hl' : ((q : Int) == la) = false := beq_eq_false_iff_ne.2 hl
      have Hw : Hid (want s q la = false) := hide (by unfold want; rw [decide_eq_false hge, decide_eq_false hl]; rfl)
      clear hl
      go_enter Tryd.func6, Tryd.ntmps6
      go_wp2_with (go_at_call 15; refine (bytes2_some s msg b off line _ _ _ HS.out HM.out c0 c1).mono ?_; rintro e w' ⟨rfl, rfl⟩)
      refine (newReader_calls _ _ _ _ _).mono ?_
      rintro e w1 ⟨rfl, hb, hR, hz⟩
      have HB := hide (((Below.refl _ _).alloc (Nat.le_refl _) _).trans (hb.mono (by simp))); simp at hR; have HR := hide hR; clear hb hR hz
      go_wp2_with fail
      refine (zzAtEnd_v _ s _ q _ la _ Hw.out (HT.out.below HB.out) HR.out h (fun hh => absurd hh hge)).mono ?_
      rintro e w2 ⟨rfl, n, rfl⟩
      go_wp2_with fail
      refine (newReader_calls _ _ _ _ _).mono ?_
      rintro e w3 ⟨rfl, hb, hR, hz⟩
      have HB2 := hide ((drewN_below HB.out n).trans (hb.mono HB.out.size)); have HR2 := hide hR; clear hb hR hz
      go_wp2_with fail
      refine (zzAtEnd_v _ s _ q _ la _ Hw.out (HT.out.below HB2.out) HR2.out h (fun hh => absurd hh hge2)).mono ?_
      rintro e w4 ⟨rfl, n2, rfl⟩
      go_wp2_with fail
      go_ret
      exact ⟨rfl, by first | exact drewN_below (drewN_below HB2.out _) _ | exact drewN_below HB2.out _⟩
end Go.Proofs.Qxb6609232aDoor.Str
