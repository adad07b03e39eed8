import Derived.Test.Qxb6609239aProg
import Derived.WalkKit
import Derived.ProofKit
import Derived.BigQuiet
import Derived.Deep.QuietTactic
import Derived.Deep.RegionWith
import Derived.Deep.DrawnRows
import Derived.Laws.Rows
import Derived.Deep.Draws
namespace Go.Proofs.Qxb6609239a.R
open Go.RowKit
set_option linter.unusedVariables false
attribute [local go_sem ↓] Go.wp_at_zero Go.wp_at_succ
theorem hide {p : Prop} (h : p) : Hid p := h
theorem ret_int {k : IntKind} {a b : Int} (h : a = b) : Ending.returned (.int k a) = .returned (.int k b) := by rw [h]
theorem ret_bool {a b : Bool} (h : a = b) : Ending.returned (.bool a) = .returned (.bool b) := by rw [h]
def Drawn (w w' : World) : Prop := ∃ n, w' = w.drewN n
theorem Drawn.refl (w : World) : Drawn w w := ⟨0, rfl⟩
theorem Drawn.drewN {w w' : World} (h : Drawn w w') (n : Nat) : Drawn w (w'.drewN n) := by
  obtain ⟨m, rfl⟩ := h; exact ⟨m + n, World.drewN_drewN ..⟩
/-- an ASCII letter lowered -/
def low (c : UInt8) : UInt8 := if 65 ≤ c.toNat ∧ c.toNat ≤ 90 then c + 32 else c
def fold (a : ByteArray) : ByteArray := ⟨a.data.map low⟩
def lowI (c : Int) : Int := if 65 ≤ c ∧ c ≤ 90 then c + 32 else c
theorem lowI_low (c : UInt8) : lowI (c.toNat : Int) = ((low c).toNat : Int) := by
  unfold lowI low
  by_cases h : 65 ≤ c.toNat ∧ c.toNat ≤ 90
  · rw [if_pos (by omega), if_pos h, UInt8.toNat_add, show (32 : UInt8).toNat = 32 from rfl]; omega
  · rw [if_neg (by omega), if_neg h]
theorem low49 (c : Int) (h0 : 0 ≤ c) (h1 : c ≤ 255) (w : World) :
    Calls Try.prog 49 #[.int .u8 c] w fun e w' => e = .returned (.int .u8 (lowI c)) ∧ w' = w := by
  by_cases a : 65 ≤ c
  · by_cases b : c ≤ 90
    · have H : Hid (c + 97 - 65 = lowI c) := hide (by unfold lowI; rw [if_pos ⟨a, b⟩]; omega)
      go_enter Try.func49, Try.ntmps49
      go_wp2
      go_ret
      exact ⟨ret_int H.out, rfl⟩
    · have H : Hid (c = lowI c) := hide (by unfold lowI; rw [if_neg (by omega)])
      go_enter Try.func49, Try.ntmps49
      go_wp2
      go_ret
      exact ⟨ret_int H.out, rfl⟩
  · have H : Hid (c = lowI c) := hide (by unfold lowI; rw [if_neg (by omega)])
    go_enter Try.func49, Try.ntmps49
    go_wp2
    go_ret
    exact ⟨ret_int H.out, rfl⟩
theorem byte_lt (c : UInt8) : (c.toNat : Int) ≤ 255 := by have := c.toNat_lt; omega
theorem lowB49 (c : UInt8) (w : World) : Calls Try.prog 49 #[.int .u8 (c.toNat : Int)] w fun e w' => e = .returned (.int .u8 ((low c).toNat : Int)) ∧ w' = w :=
  lowI_low c ▸ low49 _ (by omega) (byte_lt _) w
theorem fold_size (a : ByteArray) : (fold a).size = a.size := by
  show (a.data.map low).size = a.data.size
  exact Array.size_map
theorem fold_get (a : ByteArray) (k : Nat) (h : k < a.size) : (fold a)[k]'(by rw [fold_size]; exact h) = low a[k] := by
  show (a.data.map low)[k]'_ = low (a.data[k]'_)
  exact Array.getElem_map ..
theorem ba_ext {a b : ByteArray} (h : a.size = b.size) (hk : ∀ k (h1 : k < a.size) (h2 : k < b.size), a[k] = b[k]) : a = b := by
  cases a with | mk a => cases b with | mk b =>
  congr 1
  exact Array.ext h fun k h1 h2 => hk k h1 h2
theorem fold_eq (a b : ByteArray) (h : a.size = b.size) (hk : ∀ k (h1 : k < a.size) (h2 : k < b.size), low a[k] = low b[k]) : fold a = fold b := by
  refine ba_ext (by rw [fold_size, fold_size, h]) fun k h1 h2 => ?_
  rw [fold_size] at h1 h2
  rw [fold_get a k h1, fold_get b k h2]; exact hk k h1 h2
theorem fold_ne_at (a b : ByteArray) (k : Nat) (h1 : k < a.size) (h2 : k < b.size) (hk : low a[k] ≠ low b[k]) : fold a ≠ fold b := by
  intro e
  apply hk
  have := fold_get a k h1
  rw [← this, ← fold_get b k h2]
  simp only [e]
theorem fold_ne_size (a b : ByteArray) (h : a.size ≠ b.size) : fold a ≠ fold b := by
  intro e; apply h; rw [← fold_size a, ← fold_size b, e]
set_option maxHeartbeats 1000000 in
theorem same44 (a b : ByteArray) (w : World) (ha : a.size ≤ 1048576) (hb : b.size ≤ 1048576) (v : Bool) (hv : decide (fold a = fold b) = v) :
    Calls Try.prog 44 #[.string a, .string b] w fun e w' => e = .returned (.bool v) ∧ Drawn w w' := by
  have HV := hide hv
  clear hv
  by_cases h : a.size = b.size
  · have h' : ((a.size : Int) != b.size) = false := by simp [h]
    go_enter Try.func44, Try.ntmps44
    go_wp2
    go_loopw [6] (fun i w' => ∃ k : Nat, k ≤ a.size ∧ i = .int .i64 k ∧ (∀ j (h1 : j < a.size) (h2 : j < b.size), j < k → low a[j] = low b[j]) ∧ Drawn w w') (fun i _ => a.size - (intOf i).toNat)
    case atStart => exact ⟨0, Nat.zero_le _, rfl, by omega, Drawn.refl w⟩
    case round =>
      obtain ⟨k, hk, rfl, hall, hw⟩ := hrel
      have HW := hide hw
      clear hw
      by_cases hlt : k < a.size
      · have i1 : (k : Int) < a.size := by omega
        have i2 : (k : Int) < b.size := by omega
        have l2 : k < b.size := by omega
        have HA := hide hall
        clear hall
        by_cases he : low a[k] = low b[k]
        · have hd : (((low a[k]).toNat : Int) != ((low b[k]).toNat : Int)) = false := by rw [he]; simp
          have HE := hide he
          clear he
          go_wp2
          go_quiet ((go_at_call 49; exact Calls.quiet_of_same (lowB49 _ _)))
          go_wp2
          go_roundw
          case rel =>
            refine ⟨k + 1, by omega, by go_num, ?_, HW.out.drewN _⟩
            intro j h1 h2 hj
            rcases Nat.lt_succ_iff_lt_or_eq.1 hj with h | rfl
            · exact HA.out j h1 h2 h
            · exact HE.out
          case measure => simp [intOf]; omega
        · have hd : (((low a[k]).toNat : Int) != ((low b[k]).toNat : Int)) = true := by
            rw [bne_iff_ne]; intro e; exact he (UInt8.toNat_inj.1 (by omega))
          have HF : Hid (false = v) := hide (by rw [← HV.out, decide_eq_false (fold_ne_at a b k hlt l2 he)])
          clear he
          go_wp2
          go_quiet ((go_at_call 49; exact Calls.quiet_of_same (lowB49 _ _)))
          go_wp2
          go_ret
          exact ⟨ret_bool HF.out, HW.out.drewN _⟩
      · have HF : Hid (true = v) := hide (by
          rw [← HV.out, decide_eq_true (fold_eq a b h fun j h1 h2 => hall j h1 h2 (by omega))])
        clear hall
        go_wp2
        go_ret
        exact ⟨ret_bool HF.out, HW.out⟩
  · have h' : ((a.size : Int) != b.size) = true := by rw [bne_iff_ne]; omega
    have HF : Hid (false = v) := hide (by rw [← HV.out, decide_eq_false (fold_ne_size a b h)])
    clear h
    go_enter Try.func44, Try.ntmps44
    go_wp2
    go_ret
    exact ⟨ret_bool HF.out, Drawn.refl w⟩
end Go.Proofs.Qxb6609239a.R
