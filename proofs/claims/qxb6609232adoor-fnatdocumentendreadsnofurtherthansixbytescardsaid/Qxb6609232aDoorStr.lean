import Derived.Test.Qxb6609232aDoorProg
import Derived.WalkKit
import Derived.ProofKit
import Derived.Below
import Derived.Deep.QuietTactic
import Derived.BigQuiet
namespace Go.Proofs.Qxb6609232aDoor.Str
open Go.RowKit
set_option linter.unusedVariables false
theorem hide {p : Prop} (h : p) : Hid p := h
theorem ret_int {k : IntKind} {a b : Int} (h : a = b) : Ending.returned (.int k a) = .returned (.int k b) := by rw [h]
theorem ret_bool {a b : Bool} (h : a = b) : Ending.returned (.bool a) = .returned (.bool b) := by rw [h]

/-! ### The plain functions -/
/-- the byte at i, 256 beyond the end -/
def bt (s : ByteArray) (i : Nat) : Nat := if h : i < s.size then s[i].toNat else 256
theorem bt_in (s : ByteArray) (i : Nat) (h : i < s.size) : bt s i = s[i].toNat := by unfold bt; rw [dif_pos h]
theorem bt_out (s : ByteArray) (i : Nat) (h : ¬ i < s.size) : bt s i = 256 := by unfold bt; rw [dif_neg h]
/-- the length of the line break that begins with the bytes a, b, c -/
def brk (a b c : Nat) : Int :=
  if a = 10 then 1 else if a = 13 then (if b = 10 then 2 else 1) else if a = 194 ∧ b = 133 then 2 else if a = 226 ∧ b = 128 ∧ (c = 168 ∨ c = 169) then 3 else 0
def blank (n : Int) : Bool := decide (n = 32 ∨ n = 9)

/-! ### isBlank, breakLength -/
theorem isBlank_calls (n : Int) (w : World) :
    Calls Tryd.prog 24 #[.int .u8 n] w fun e w' => e = .returned (.bool (blank n)) ∧ w' = w := by
  by_cases h1 : n = 32
  · subst h1
    go_enter Tryd.func24, Tryd.ntmps24
    go_wp2
    go_ret
    exact ⟨rfl, rfl⟩
  by_cases h2 : n = 9
  · subst h2
    go_enter Tryd.func24, Tryd.ntmps24
    go_wp2
    go_ret
    exact ⟨rfl, rfl⟩
  have H : Hid (false = blank n) := hide (by unfold blank; rw [decide_eq_false (by omega)])
  have e1 : (n == 32) = false := beq_eq_false_iff_ne.2 h1
  have e2 : (n == 9) = false := beq_eq_false_iff_ne.2 h2
  go_enter Tryd.func24, Tryd.ntmps24
  go_wp2
  go_ret
  exact ⟨ret_bool H.out, rfl⟩
set_option maxHeartbeats 1000000 in
theorem breakLength_calls (s : ByteArray) (k : Nat) (w : World) (hs : s.size ≤ 1048576) (hk : k < s.size) :
    Calls Tryd.prog 26 #[.string s, .int .i64 k] w fun e w' => e = .returned (.int .i64 (brk (bt s k) (bt s (k + 1)) (bt s (k + 2)))) ∧ w' = w := by
  have E0 := hide (bt_in s k hk)
  by_cases h1 : k + 1 < s.size
  · have E1 := hide (bt_in s (k + 1) h1)
    by_cases h2 : k + 2 < s.size
    · have E2 := hide (bt_in s (k + 2) h2)
      have i1 : (k : Int) + 1 < s.size := by omega
      have i2 : (k : Int) + 2 < s.size := by omega
      go_enter Tryd.func26, Tryd.ntmps26
      go_wp2
      all_goals
        go_ret
        refine ⟨ret_int ?_, rfl⟩
        rw [E0.out, E1.out, E2.out]
        simp only [beq_iff_eq, beq_eq_false_iff_ne, ne_eq] at *
        unfold brk
        (repeat' split) <;> omega
    · have E2 := hide (bt_out s (k + 2) h2)
      have i1 : (k : Int) + 1 < s.size := by omega
      have i2 : (s.size : Int) ≤ (k : Int) + 2 := by omega
      go_enter Tryd.func26, Tryd.ntmps26
      go_wp2
      all_goals
        go_ret
        refine ⟨ret_int ?_, rfl⟩
        rw [E0.out, E1.out, E2.out]
        simp only [beq_iff_eq, beq_eq_false_iff_ne, ne_eq] at *
        unfold brk
        (repeat' split) <;> omega
  · have E1 := hide (bt_out s (k + 1) h1)
    have E2 := hide (bt_out s (k + 2) (by omega))
    have i1 : (s.size : Int) ≤ (k : Int) + 1 := by omega
    have i2 : (s.size : Int) ≤ (k : Int) + 2 := by omega
    go_enter Tryd.func26, Tryd.ntmps26
    go_wp2
    all_goals
      go_ret
      refine ⟨ret_int ?_, rfl⟩
      rw [E0.out, E1.out, E2.out]
      simp only [beq_iff_eq, beq_eq_false_iff_ne, ne_eq] at *
      unfold brk
      (repeat' split) <;> omega

/-! ### breakAt, blankAt -/
/-- the table mayBeginBreak -/
def tbl (b : Nat) : Bool := decide (b = 10 ∨ b = 13 ∨ b = 194 ∨ b = 226)
/-- the package-level table as it lies in memory -/
def Tab (w : World) : Prop := ∀ b : Nat, b < 256 → w.cell? ⟨0, b, none⟩ = some (.bool (tbl b))
theorem tbl_brk (a b c : Nat) (h : tbl a = false) : brk a b c = 0 := by
  unfold tbl at h; have := of_decide_eq_false h; unfold brk
  rw [if_neg (by omega), if_neg (by omega), if_neg (by omega), if_neg (by omega)]
def bbf (s : ByteArray) (k : Nat) : Bool := decide (s.size ≤ k) || blank (bt s k) || decide (0 < brk (bt s k) (bt s (k + 1)) (bt s (k + 2)))
theorem breakAt_calls (s : ByteArray) (k : Nat) (w : World) (hT : Tab w) (hs : s.size ≤ 1048576) (hk : k < s.size) :
    Calls Tryd.prog 25 #[.string s, .int .i64 k] w fun e w' => e = .returned (.int .i64 (brk (bt s k) (bt s (k + 1)) (bt s (k + 2)))) ∧ w' = w := by
  have E0 := hide (bt_in s k hk)
  have hb : s[k].toNat < 256 := s[k].toNat_lt
  have hc := hT _ hb
  have hb1 : (0 : Int) ≤ s[k].toNat := by omega
  have hb2 : (s[k].toNat : Int) < 256 := by omega
  cases ht : tbl s[k].toNat
  · have H : Hid (0 = brk (bt s k) (bt s (k + 1)) (bt s (k + 2))) := hide (by rw [E0.out, tbl_brk _ _ _ ht])
    rw [ht] at hc
    clear ht
    go_enter Tryd.func25, Tryd.ntmps25
    go_wp2
    go_ret
    exact ⟨ret_int H.out, rfl⟩
  · rw [ht] at hc
    clear ht
    go_enter Tryd.func25, Tryd.ntmps25
    go_wp2_with (go_at_call 26; refine (breakLength_calls _ _ _ hs hk).mono ?_; rintro e w' ⟨rfl, rfl⟩)
    go_ret
    exact ⟨rfl, rfl⟩
/-- a reader as it lies in memory -/
structure Rd (w : World) (b : Nat) (s : ByteArray) (r : Option Addr) (pos lineAt : Int) : Prop where
  c0 : w.cell? ⟨b, 0, none⟩ = some (.string s)
  c1 : w.cell? ⟨b, 1, none⟩ = some (.pointer r)
  c2 : w.cell? ⟨b, 2, none⟩ = some (.int .i64 pos)
  c4 : w.cell? ⟨b, 4, none⟩ = some (.int .i64 lineAt)
theorem blankAt_calls (s : ByteArray) (b k : Nat) (w : World) (hT : Tab w) (c0 : w.cell? ⟨b, 0, none⟩ = some (.string s)) (hs : s.size ≤ 1048576) (hk' : k ≤ 2000000) :
    Calls Tryd.prog 21 #[.pointer (some ⟨b, 0, none⟩), .int .i64 k] w fun e w' => e = .returned (.bool (bbf s k)) ∧ w' = w := by
  by_cases hk : k < s.size
  · have E0 := hide (bt_in s k hk)
    have hi : (k : Int) < s.size := by omega
    cases hbl : blank s[k].toNat
    · have H : Hid ((decide (s.size ≤ k) || decide (0 < brk (bt s k) (bt s (k + 1)) (bt s (k + 2)))) = bbf s k) := hide (by
        unfold bbf; rw [E0.out, hbl, Bool.or_false])
      go_enter Tryd.func21, Tryd.ntmps21
      go_wp2_with (first | (go_at_call 24; refine (isBlank_calls _ _).mono ?_; rintro e w' ⟨rfl, rfl⟩) | (go_at_call 25; refine (breakAt_calls _ _ _ hT hs hk).mono ?_; rintro e w' ⟨rfl, rfl⟩))
      go_ret
      exact ⟨ret_bool H.out, rfl⟩
    · have H : Hid (true = bbf s k) := hide (by
        unfold bbf; rw [E0.out, hbl]; simp)
      go_enter Tryd.func21, Tryd.ntmps21
      go_wp2_with (first | (go_at_call 24; refine (isBlank_calls _ _).mono ?_; rintro e w' ⟨rfl, rfl⟩) | (go_at_call 25; refine (breakAt_calls _ _ _ hT hs hk).mono ?_; rintro e w' ⟨rfl, rfl⟩))
      go_ret
      exact ⟨ret_bool H.out, rfl⟩
  · have hi : (s.size : Int) ≤ k := by omega
    have H : Hid (true = bbf s k) := hide (by
      unfold bbf; rw [decide_eq_true (p := s.size ≤ k) (by omega)]; simp)
    go_enter Tryd.func21, Tryd.ntmps21
    go_wp2
    go_ret
    exact ⟨ret_bool H.out, rfl⟩

/-! ### HasPrefix -/
def pfx (s p : ByteArray) : Bool := decide (∀ i, i < p.size → bt s i = bt p i)
theorem pfx_short (s p : ByteArray) (h : s.size < p.size) : pfx s p = false := by
  unfold pfx; refine decide_eq_false fun H => ?_
  have := H s.size h
  rw [bt_out s _ (by omega), bt_in p _ h] at this
  have := p[s.size].toNat_lt
  omega
theorem getElem_eq_of (s p : ByteArray) (i : Nat) (h1 : i < s.size) (h2 : i < p.size) : bt s i = bt p i ↔ s[i] = p[i] := by
  rw [bt_in s i h1, bt_in p i h2]
  exact ⟨fun h => UInt8.toNat_inj.1 h, fun h => by rw [h]⟩
theorem pfx_eq (s p : ByteArray) (h : p.size ≤ s.size) : ((s.extract 0 p.size).toList == p.toList) = pfx s p := by
  unfold pfx
  rw [Bool.eq_iff_iff, beq_iff_eq, decide_eq_true_iff, ByteArray.toList_eq, ByteArray.toList_eq]
  have hsz : (s.extract 0 p.size).size = p.size := by rw [ByteArray.size_extract]; omega
  constructor
  · intro e i hi
    have e' : s.extract 0 p.size = p := by
      cases hx : s.extract 0 p.size; cases p; rw [hx] at e; simp only at e; congr 1; exact Array.toList_inj.1 e
    rw [getElem_eq_of s p i (by omega) hi]
    have h1 : (s.extract 0 p.size)[i]'(by omega) = s[0 + i]'(by omega) := ByteArray.getElem_extract _
    simp only [e', Nat.zero_add] at h1
    exact h1.symm
  · intro H
    have e' : s.extract 0 p.size = p := by
      refine ByteArray.ext_getElem hsz fun i h1 h2 => ?_
      rw [ByteArray.getElem_extract]
      simp only [Nat.zero_add]
      exact (getElem_eq_of s p i (by omega) h2).1 (H i h2)
    rw [e']
theorem hasPrefix_calls (s p : ByteArray) (w : World) (hs : s.size ≤ 1048576) (hp : p.size ≤ 1048576) :
    Calls Tryd.prog 23 #[.string s, .string p] w fun e w' => e = .returned (.bool (pfx s p)) ∧ w' = w := by
  by_cases h : p.size ≤ s.size
  · have H := hide (pfx_eq s p h)
    go_enter Tryd.func23, Tryd.ntmps23
    go_wp2
    go_ret
    exact ⟨ret_bool H.out, rfl⟩
  · have H := hide (pfx_short s p (by omega))
    go_enter Tryd.func23, Tryd.ntmps23
    go_wp2
    go_ret
    exact ⟨ret_bool H.out.symm, rfl⟩
theorem stringsHasPrefix_calls (s p : ByteArray) (w : World) (hs : s.size ≤ 1048576) (hp : p.size ≤ 1048576) :
    Calls Tryd.prog 20 #[.string s, .string p] w fun e w' => e = .returned (.bool (pfx s p)) ∧ w' = w := by
  go_enter Tryd.func20, Tryd.ntmps20
  go_wp2_with (go_at_call 23; refine (hasPrefix_calls _ _ _ hs hp).mono ?_; rintro e w' ⟨rfl, rfl⟩)
  go_ret
  exact ⟨rfl, rfl⟩
set_option maxHeartbeats 1000000 in
theorem zzHasPrefix_calls (s p : ByteArray) (w : World) (hs : s.size ≤ 1048576) (hp : p.size ≤ 1048576) :
    Calls Tryd.prog 17 #[.string s, .string p] w fun e w' => e = .returned (.bool (pfx s p)) ∧ ∃ n, w' = w.drewN n := by
  by_cases h : p.size ≤ s.size
  · go_enter Tryd.func17, Tryd.ntmps17
    go_wp2
    go_loopw [5] (fun i w' => ∃ k : Nat, k ≤ p.size ∧ i = .int .i64 k ∧ (∀ j, j < k → bt s j = bt p j) ∧ ∃ n, w' = w.drewN n) (fun i _ => p.size - (intOf i).toNat)
    case atStart => exact ⟨0, Nat.zero_le _, rfl, by omega, 0, rfl⟩
    case round =>
      obtain ⟨k, hk, rfl, hall, n, rfl⟩ := hrel
      by_cases hlt : k < p.size
      · have i1 : (k : Int) < p.size := by omega
        have i2 : (k : Int) < s.size := by omega
        have l2 : k < s.size := by omega
        have HA := hide hall
        have E1 := hide (getElem_eq_of s p k l2 hlt)
        clear hall
        by_cases he : s[k] = p[k]
        · have hd : ((s[k].toNat : Int) != (p[k].toNat : Int)) = false := by rw [he]; simp
          have HE := hide (E1.out.2 he)
          clear he
          go_wp2
          go_quiet (fail)
          go_wp2
          go_roundw
          case rel =>
            refine ⟨k + 1, by omega, by go_num, ?_, _, by first | rfl | (simp; rfl)⟩
            intro j hj
            rcases Nat.lt_succ_iff_lt_or_eq.1 hj with h | rfl
            · exact HA.out j h
            · exact HE.out
          case measure => simp [intOf]; omega
        · have hd : ((s[k].toNat : Int) != (p[k].toNat : Int)) = true := by
            rw [bne_iff_ne]; intro e; exact he (UInt8.toNat_inj.1 (by omega))
          have HF : Hid (false = pfx s p) := hide (by
            unfold pfx; rw [decide_eq_false]; intro H; exact he (E1.out.1 (H k hlt)))
          clear he
          go_wp2
          go_quiet (fail)
          go_wp2
          go_ret
          exact ⟨ret_bool HF.out, _, by first | rfl | (simp; rfl)⟩
      · have HF : Hid (true = pfx s p) := hide (by
          unfold pfx; rw [decide_eq_true]; intro j hj; exact hall j (by omega))
        clear hall
        go_wp2
        go_ret
        exact ⟨ret_bool HF.out, _, rfl⟩
  · have H := hide (pfx_short s p (by omega))
    go_enter Tryd.func17, Tryd.ntmps17
    go_wp2
    go_ret
    exact ⟨ret_bool H.out.symm, 0, rfl⟩
end Go.Proofs.Qxb6609232aDoor.Str
