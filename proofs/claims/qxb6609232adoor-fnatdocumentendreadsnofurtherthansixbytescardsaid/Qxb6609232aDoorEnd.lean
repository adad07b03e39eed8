import Derived.Test.Qxb6609232aDoorStr
namespace Go.Proofs.Qxb6609232aDoor.Str
open Go.RowKit
set_option linter.unusedVariables false

/-! ### plain facts -/
theorem bt_extract (s : ByteArray) (j i : Nat) : bt (s.extract j s.size) i = bt s (j + i) := by
  have hsz : (s.extract j s.size).size = s.size - j := by rw [ByteArray.size_extract]; omega
  by_cases h : j + i < s.size
  · rw [bt_in _ i (by omega), bt_in s _ h]
    have h1 : (s.extract j s.size)[i]'(by omega) = s[j + i]'(by omega) := ByteArray.getElem_extract _
    rw [h1]
  · rw [bt_out _ i (by omega), bt_out s _ h]
theorem bt_cut (s : ByteArray) (m i : Nat) (hm : m ≤ s.size) (h : i < m) : bt (s.extract 0 m) i = bt s i := by
  have hsz : (s.extract 0 m).size = m := by rw [ByteArray.size_extract]; omega
  rw [bt_in _ i (by omega), bt_in s _ (by omega)]
  have h1 : (s.extract 0 m)[i]'(by omega) = s[0 + i]'(by omega) := ByteArray.getElem_extract _
  rw [h1]; simp only [Nat.zero_add]
theorem bbf_extract (s : ByteArray) (j k : Nat) : bbf (s.extract j s.size) k = bbf s (j + k) := by
  have hsz : (s.extract j s.size).size = s.size - j := by rw [ByteArray.size_extract]; omega
  unfold bbf
  rw [bt_extract, bt_extract, bt_extract, hsz]
  have : decide (s.size - j ≤ k) = decide (s.size ≤ j + k) := by
    by_cases h : s.size - j ≤ k
    · rw [decide_eq_true h, decide_eq_true (by omega)]
    · rw [decide_eq_false h, decide_eq_false (by omega)]
  rw [this]; rfl
theorem pfx1 (s : ByteArray) (a : UInt8) : pfx s ⟨#[a]⟩ = decide (bt s 0 = a.toNat) := by
  unfold pfx
  have e0 : bt ⟨#[a]⟩ 0 = a.toNat := rfl
  have : (∀ i, i < (⟨#[a]⟩ : ByteArray).size → bt s i = bt ⟨#[a]⟩ i) ↔ bt s 0 = a.toNat := by
    constructor
    · intro H; exact (H 0 (by show 0 < 1; omega)).trans e0
    · intro h i hi
      have : i < 1 := hi
      obtain rfl : i = 0 := by omega
      exact h.trans e0.symm
  by_cases h : bt s 0 = a.toNat
  · rw [decide_eq_true h, decide_eq_true (this.2 h)]
  · rw [decide_eq_false h, decide_eq_false (fun x => h (this.1 x))]
theorem pfx2 (s : ByteArray) (a b : UInt8) : pfx s ⟨#[a, b]⟩ = decide (bt s 0 = a.toNat ∧ bt s 1 = b.toNat) := by
  unfold pfx
  have e0 : bt ⟨#[a, b]⟩ 0 = a.toNat := rfl
  have e1 : bt ⟨#[a, b]⟩ 1 = b.toNat := rfl
  have : (∀ i, i < (⟨#[a, b]⟩ : ByteArray).size → bt s i = bt ⟨#[a, b]⟩ i) ↔ (bt s 0 = a.toNat ∧ bt s 1 = b.toNat) := by
    constructor
    · intro H; exact ⟨(H 0 (by show 0 < 2; omega)).trans e0, (H 1 (by show 1 < 2; omega)).trans e1⟩
    · intro h i hi
      have : i < 2 := hi
      rcases (show i = 0 ∨ i = 1 by omega) with rfl | rfl
      · exact h.1.trans e0.symm
      · exact h.2.trans e1.symm
  by_cases h : bt s 0 = a.toNat ∧ bt s 1 = b.toNat
  · rw [decide_eq_true h, decide_eq_true (this.2 h)]
  · rw [decide_eq_false h, decide_eq_false (fun x => h (this.1 x))]
theorem pfx3 (s : ByteArray) (a b c : UInt8) : pfx s ⟨#[a, b, c]⟩ = decide (bt s 0 = a.toNat ∧ bt s 1 = b.toNat ∧ bt s 2 = c.toNat) := by
  unfold pfx
  have e0 : bt ⟨#[a, b, c]⟩ 0 = a.toNat := rfl
  have e1 : bt ⟨#[a, b, c]⟩ 1 = b.toNat := rfl
  have e2 : bt ⟨#[a, b, c]⟩ 2 = c.toNat := rfl
  have : (∀ i, i < (⟨#[a, b, c]⟩ : ByteArray).size → bt s i = bt ⟨#[a, b, c]⟩ i) ↔ (bt s 0 = a.toNat ∧ bt s 1 = b.toNat ∧ bt s 2 = c.toNat) := by
    constructor
    · intro H; exact ⟨(H 0 (by show 0 < 3; omega)).trans e0, (H 1 (by show 1 < 3; omega)).trans e1, (H 2 (by show 2 < 3; omega)).trans e2⟩
    · intro h i hi
      have : i < 3 := hi
      rcases (show i = 0 ∨ i = 1 ∨ i = 2 by omega) with rfl | rfl | rfl
      · exact h.1.trans e0.symm
      · exact h.2.1.trans e1.symm
      · exact h.2.2.trans e2.symm
  by_cases h : bt s 0 = a.toNat ∧ bt s 1 = b.toNat ∧ bt s 2 = c.toNat
  · rw [decide_eq_true h, decide_eq_true (this.2 h)]
  · rw [decide_eq_false h, decide_eq_false (fun x => h (this.1 x))]
theorem bbf_pfx (t : ByteArray) (h : 0 < t.size) (h1 : bt t 0 ≠ 32) (h2 : bt t 0 ≠ 9) (h3 : bt t 0 ≠ 10) (h4 : bt t 0 ≠ 13) :
    bbf t 0 = (pfx t ⟨#[194, 133]⟩ || pfx t ⟨#[226, 128, 168]⟩ || pfx t ⟨#[226, 128, 169]⟩) := by
  rw [pfx2, pfx3, pfx3]
  unfold bbf blank brk
  rw [decide_eq_false (p := t.size ≤ 0) (by omega), decide_eq_false (p := (bt t 0 : Int) = 32 ∨ (bt t 0 : Int) = 9) (by omega), if_neg h3, if_neg h4]
  simp only [Nat.zero_add, Bool.false_or]
  rw [show (194 : UInt8).toNat = 194 from rfl, show (133 : UInt8).toNat = 133 from rfl, show (226 : UInt8).toNat = 226 from rfl, show (128 : UInt8).toNat = 128 from rfl, show (168 : UInt8).toNat = 168 from rfl, show (169 : UInt8).toNat = 169 from rfl]
  by_cases a : bt t 0 = 194 ∧ bt t 1 = 133
  · rw [if_pos a, decide_eq_true a]; rfl
  · rw [if_neg a, decide_eq_false a]
    by_cases b : bt t 0 = 226 ∧ bt t 1 = 128 ∧ (bt t 2 = 168 ∨ bt t 2 = 169)
    · rw [if_pos b]
      obtain ⟨b0, b1, b2 | b2⟩ := b
      · rw [decide_eq_true (p := bt t 0 = 226 ∧ bt t 1 = 128 ∧ bt t 2 = 168) ⟨b0, b1, b2⟩]; rfl
      · rw [decide_eq_true (p := bt t 0 = 226 ∧ bt t 1 = 128 ∧ bt t 2 = 169) ⟨b0, b1, b2⟩]; simp
    · rw [if_neg b, decide_eq_false (p := bt t 0 = 226 ∧ bt t 1 = 128 ∧ bt t 2 = 168) (by omega), decide_eq_false (p := bt t 0 = 226 ∧ bt t 1 = 128 ∧ bt t 2 = 169) (by omega)]; rfl
def ml (r m : ByteArray) : Bool := pfx r m && bbf r m.size
def el (r : ByteArray) : Bool := pfx r ⟨#[37]⟩ || ml r ⟨#[45, 45, 45]⟩ || ml r ⟨#[46, 46, 46]⟩

/-! ### the law's own functions -/
theorem lit_le {p : ByteArray} (h : p.size ≤ 3) : p.size ≤ 1048576 := by omega
set_option maxHeartbeats 1000000 in
theorem zzBlank_calls (t : ByteArray) (w : World) (hs : t.size ≤ 1048576) :
    Calls Tryd.prog 18 #[.string t] w fun e w' => e = .returned (.bool (bbf t 0)) ∧ ∃ n, w' = w.drewN n := by
  by_cases h0 : t.size = 0
  · have H : Hid (true = bbf t 0) := hide (by unfold bbf; rw [decide_eq_true (p := t.size ≤ 0) (by omega)]; rfl)
    have hz : ((t.size : Int) == 0) = true := beq_iff_eq.2 (by omega)
    clear h0
    go_enter Tryd.func18, Tryd.ntmps18
    go_wp2
    go_ret
    exact ⟨ret_bool H.out, 0, rfl⟩
  have hz : ((t.size : Int) == 0) = false := beq_eq_false_iff_ne.2 (by omega)
  have hp : 0 < t.size := by omega
  have hp' : (0 : Int) < t.size := by omega
  clear h0
  have E0 := bt_in t 0 hp
  by_cases c : bt t 0 = 32 ∨ bt t 0 = 9 ∨ bt t 0 = 10 ∨ bt t 0 = 13
  · have H : Hid (true = bbf t 0) := hide (by
      unfold bbf blank brk
      rcases c with e | e | e | e <;> rw [e] <;> simp
      right; split <;> omega)
    rcases c with c | c | c | c
    all_goals
      rw [E0] at c
      clear E0
      go_enter Tryd.func18, Tryd.ntmps18
      go_wp2
      go_ret
      exact ⟨ret_bool H.out, 0, rfl⟩
  · have H := hide (bbf_pfx t hp (by omega) (by omega) (by omega) (by omega))
    rw [E0] at c
    have n1 : ((t[0].toNat : Int) == 32) = false := beq_eq_false_iff_ne.2 (by omega)
    have n2 : ((t[0].toNat : Int) == 9) = false := beq_eq_false_iff_ne.2 (by omega)
    have n3 : ((t[0].toNat : Int) == 10) = false := beq_eq_false_iff_ne.2 (by omega)
    have n4 : ((t[0].toNat : Int) == 13) = false := beq_eq_false_iff_ne.2 (by omega)
    clear c E0
    cases p1 : pfx t ⟨#[194, 133]⟩ <;> cases p2 : pfx t ⟨#[226, 128, 168]⟩ <;> cases p3 : pfx t ⟨#[226, 128, 169]⟩
    all_goals
      rw [p1, p2, p3] at H
      go_enter Tryd.func18, Tryd.ntmps18
      go_wp2_with (go_at_call 17; refine (zzHasPrefix_calls _ _ _ hs (lit_le (by decide))).mono ?_; rintro e w' ⟨rfl, n, rfl⟩)
      go_ret
      exact ⟨ret_bool H.out.symm, _, by first | rfl | (simp only [World.drewN_drewN]; rfl)⟩
theorem zzMarkerLine_calls (r m : ByteArray) (w : World) (hs : r.size ≤ 1048576) (hm : m.size ≤ 1048576) :
    Calls Tryd.prog 10 #[.string r, .string m] w fun e w' => e = .returned (.bool (ml r m)) ∧ ∃ n, w' = w.drewN n := by
  cases p : pfx r m
  · have H : Hid (false = ml r m) := hide (by unfold ml; rw [p]; rfl)
    go_enter Tryd.func10, Tryd.ntmps10
    go_wp2_with (go_at_call 17; refine (zzHasPrefix_calls _ _ _ hs hm).mono ?_; rintro e w' ⟨rfl, n, rfl⟩)
    go_ret
    exact ⟨ret_bool H.out, _, rfl⟩
  · have hle : m.size ≤ r.size := by
      apply Nat.le_of_not_lt; intro h; rw [pfx_short r m h] at p; cases p
    have H : Hid (bbf (r.extract m.size r.size) 0 = ml r m) := hide (by unfold ml; rw [p, bbf_extract]; simp)
    have hle' : (m.size : Int) ≤ r.size := by omega
    have hsz : (r.extract m.size r.size).size ≤ 1048576 := by rw [ByteArray.size_extract]; omega
    go_enter Tryd.func10, Tryd.ntmps10
    go_wp2_with (first | (go_at_call 17; refine (zzHasPrefix_calls _ _ _ hs hm).mono ?_; rintro e w' ⟨rfl, n, rfl⟩) | (go_at_call 18; refine (zzBlank_calls _ _ hsz).mono ?_; rintro e w' ⟨rfl, n, rfl⟩))
    go_ret
    exact ⟨ret_bool H.out, _, by first | rfl | (simp only [World.drewN_drewN]; rfl)⟩
set_option maxHeartbeats 1000000 in
theorem zzEndLine_calls (r : ByteArray) (w : World) (hs : r.size ≤ 1048576) :
    Calls Tryd.prog 14 #[.string r] w fun e w' => e = .returned (.bool (el r)) ∧ ∃ n, w' = w.drewN n := by
  have H : Hid (el r = (pfx r ⟨#[37]⟩ || ml r ⟨#[45, 45, 45]⟩ || ml r ⟨#[46, 46, 46]⟩)) := hide rfl
  cases p1 : pfx r ⟨#[37]⟩ <;> cases p2 : ml r ⟨#[45, 45, 45]⟩ <;> cases p3 : ml r ⟨#[46, 46, 46]⟩
  all_goals
    rw [p1, p2, p3] at H
    go_enter Tryd.func14, Tryd.ntmps14
    go_wp2_with (first | (go_at_call 17; refine (zzHasPrefix_calls _ _ _ hs (lit_le (by decide))).mono ?_; rintro e w' ⟨rfl, n, rfl⟩) | (go_at_call 10; refine (zzMarkerLine_calls _ _ _ hs (lit_le (by decide))).mono ?_; rintro e w' ⟨rfl, n, rfl⟩))
    go_ret
    exact ⟨ret_bool H.out.symm, _, by first | rfl | (simp only [World.drewN_drewN]; rfl)⟩

/-! ### the reader's methods -/
theorem end_calls (s : ByteArray) (b q : Nat) (r : Option Addr) (la : Int) (w : World) (hR : Rd w b s r q la) (hs : s.size ≤ 1048576) (hr : s.size ≤ q → r = none) :
    Calls Tryd.prog 22 #[.pointer (some ⟨b, 0, none⟩)] w fun e w' => e = .returned (.bool (decide (s.size ≤ q))) ∧ ∃ n, w' = w.drewN n := by
  obtain ⟨c0, c1, c2, c4⟩ := hR
  by_cases h : s.size ≤ q
  · obtain rfl := hr h
    have H : Hid (true = decide (s.size ≤ q)) := hide (by rw [decide_eq_true h])
    have h' : (s.size : Int) ≤ q := by omega
    have hd : decide ((q : Int) < (s.size : Int)) = false := decide_eq_false (by omega)
    clear hr h
    go_enter Tryd.func22, Tryd.ntmps22
    go_wp2
    go_quiet (fail)
    go_wp2
    go_ret
    exact ⟨ret_bool H.out, _, by first | rfl | (simp only [World.drewN_drewN]; rfl)⟩
  · have H : Hid (false = decide (s.size ≤ q)) := hide (by rw [decide_eq_false h])
    have h' : (q : Int) < s.size := by omega
    clear hr h
    go_enter Tryd.func22, Tryd.ntmps22
    go_wp2
    go_quiet (fail)
    go_wp2
    go_ret
    exact ⟨ret_bool H.out, _, by first | rfl | (simp only [World.drewN_drewN]; rfl)⟩
theorem blankAt_calls' (s : ByteArray) (b : Nat) (i : Int) (k : Nat) (hi : i = k) (w : World) (hT : Tab w) (c0 : w.cell? ⟨b, 0, none⟩ = some (.string s)) (hs : s.size ≤ 1048576) (hk' : k ≤ 2000000) :
    Calls Tryd.prog 21 #[.pointer (some ⟨b, 0, none⟩), .int .i64 i] w fun e w' => e = .returned (.bool (bbf s k)) ∧ w' = w := by
  subst hi; exact blankAt_calls s b k w hT c0 hs hk'
theorem Tab.drewN {w : World} (h : Tab w) (n : Nat) : Tab (w.drewN n) := h
theorem Rd.drewN {w : World} {b : Nat} {s : ByteArray} {r : Option Addr} {p l : Int} (h : Rd w b s r p l) (n : Nat) : Rd (w.drewN n) b s r p l := ⟨h.1, h.2, h.3, h.4⟩
/-- what atMarker answers -/
def am (s : ByteArray) (q : Nat) (la : Int) (m : ByteArray) : Bool := decide ((q : Int) = la) && (pfx (s.extract q s.size) m && bbf s (q + 3))
set_option maxHeartbeats 1000000 in
theorem atMarker_calls (s m : ByteArray) (b q : Nat) (r : Option Addr) (la : Int) (w : World) (hT : Tab w) (hR : Rd w b s r q la) (hs : s.size ≤ 1048576) (hm : m.size ≤ 1048576) (hq : q ≤ s.size) :
    Calls Tryd.prog 16 #[.pointer (some ⟨b, 0, none⟩), .string m] w fun e w' => e = .returned (.bool (am s q la m)) ∧ ∃ n, w' = w.drewN n := by
  obtain ⟨c0, c1, c2, c4⟩ := hR
  by_cases h : (q : Int) = la
  · have hd : ((q : Int) == la) = true := beq_iff_eq.2 h
    have hq' : (q : Int) ≤ s.size := by omega
    have hsz : (s.extract q s.size).size ≤ 1048576 := by rw [ByteArray.size_extract]; omega
    cases p : pfx (s.extract q s.size) m
    · have H : Hid (false = am s q la m) := hide (by unfold am; rw [p]; simp)
      clear h
      go_enter Tryd.func16, Tryd.ntmps16
      go_wp2
      go_quiet ((go_at_call 20; exact Calls.quiet_of_same (stringsHasPrefix_calls _ _ _ hsz hm)))
      go_wp2
      go_ret
      exact ⟨ret_bool H.out, _, by first | rfl | (simp only [World.drewN_drewN]; rfl)⟩
    · have H : Hid (bbf s (q + 3) = am s q la m) := hide (by unfold am; rw [p, decide_eq_true h]; simp)
      clear h
      go_enter Tryd.func16, Tryd.ntmps16
      go_wp2
      go_quiet (first | (go_at_call 20; exact Calls.quiet_of_same (stringsHasPrefix_calls _ _ _ hsz hm)) | (go_at_call 21; exact Calls.quiet_of_same (blankAt_calls' s b _ (q + 3) (by omega) _ (by exact hT) (by exact c0) hs (by omega))))
      go_wp2
      go_ret
      exact ⟨ret_bool H.out, _, by first | rfl | (simp only [World.drewN_drewN]; rfl)⟩
  · have hd : ((q : Int) == la) = false := beq_eq_false_iff_ne.2 h
    have H : Hid (false = am s q la m) := hide (by unfold am; rw [decide_eq_false h]; rfl)
    clear h
    go_enter Tryd.func16, Tryd.ntmps16
    go_wp2
    go_quiet (fail)
    go_wp2
    go_ret
    exact ⟨ret_bool H.out, _, by first | rfl | (simp only [World.drewN_drewN]; rfl)⟩
end Go.Proofs.Qxb6609232aDoor.Str
