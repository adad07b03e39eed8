import Derived.Test.Qxb6609232aDoorLaw
namespace Go.Proofs.Qxb6609232aDoor.Str
open Go.RowKit
set_option linter.unusedVariables false
theorem zzAtEnd_calls (s : ByteArray) (b q : Nat) (r : Option Addr) (la : Int) (w : World) (hT : Tab w) (hR : Rd w b s r q la) (hs : s.size ≤ 1048576) (hr : s.size ≤ q → r = none) :
    Calls Tryd.prog 13 #[.pointer (some ⟨b, 0, none⟩)] w fun e w' => e = .returned (.bool (ade s q la)) ∧ ∃ n, w' = w.drewN n := by
  have HR := hide hR
  have HT := hide hT
  have Hr := hide hr
  clear hR hT hr
  go_enter Tryd.func13, Tryd.ntmps13
  go_wp2_with (go_at_call 19; refine (atDocumentEnd_calls s b q r la _ HT.out HR.out hs Hr.out).mono ?_; rintro e w' ⟨rfl, n, rfl⟩)
  go_ret
  exact ⟨rfl, _, rfl⟩
/-! ### a new reader -/
set_option maxRecDepth 10000 in
set_option maxHeartbeats 1000000 in
theorem newReader_calls (s : ByteArray) (r : Option Addr) (pos la : Int) (w : World) :
    Calls Tryd.prog 8 #[.string s, .pointer r, .int .i64 pos, .int .i64 0, .int .i64 la, .int .i64 0, .int .i64 0, .int .i64 0, .int .i64 0, .int .i64 0] w fun e w' =>
      e = .returned (.pointer (some ⟨w.heap.size, 0, none⟩)) ∧ Below w.heap.size w w' ∧ Rd w' w.heap.size s r pos la ∧ w'.heap.size = w.heap.size + 1 := by
  go_enter Tryd.func8, Tryd.ntmps8
  go_wp2
  go_ret
  refine ⟨rfl, (Below.refl _ _).alloc (Nat.le_refl _) _, ⟨?_, ?_, ?_, ?_⟩, ?_⟩ <;> simp [go_sem]
/-! ### the bounds -/
theorem bytes_none (s : ByteArray) (pos la : Int) (w : World) (hs : s.size ≤ maxLen) :
    Calls Tryd.prog 12 #[.string s, .pointer none, .int .i64 pos, .int .i64 la] w fun e w' => e = .returned (.bool (decide (s.size ≤ 1048576))) ∧ w' = w := by
  unfold maxLen at hs
  by_cases h : s.size ≤ 1048576
  · have H : Hid (true = decide (s.size ≤ 1048576)) := hide (by rw [decide_eq_true h])
    have h' : (s.size : Int) ≤ 1048576 := by omega
    go_enter Tryd.func12, Tryd.ntmps12
    go_wp2
    go_ret
    exact ⟨ret_bool H.out, rfl⟩
  · have H : Hid (false = decide (s.size ≤ 1048576)) := hide (by rw [decide_eq_false h])
    have h' : (1048576 : Int) < s.size := by omega
    go_enter Tryd.func12, Tryd.ntmps12
    go_wp2
    go_ret
    exact ⟨ret_bool H.out, rfl⟩
theorem bytes_some (s msg : ByteArray) (b off : Nat) (line pos la : Int) (w : World) (hs : s.size ≤ maxLen) (hm : msg.size ≤ maxLen)
    (c0 : w.cell? ⟨b, off, none⟩ = some (.int .i64 line)) (c1 : w.cell? ⟨b, off + 1, none⟩ = some (.string msg)) :
    Calls Tryd.prog 12 #[.string s, .pointer (some ⟨b, off, none⟩), .int .i64 pos, .int .i64 la] w fun e w' => e = .returned (.bool (decide (s.size + msg.size ≤ 1048576))) ∧ w' = w := by
  unfold maxLen at hs hm
  by_cases h : s.size ≤ 1048576
  · have h' : (s.size : Int) ≤ 1048576 := by omega
    by_cases h2 : msg.size ≤ 1048576
    · have h2' : (msg.size : Int) ≤ 1048576 := by omega
      by_cases h3 : s.size + msg.size ≤ 1048576
      · have H : Hid (true = decide (s.size + msg.size ≤ 1048576)) := hide (by rw [decide_eq_true h3])
        have h3' : (s.size : Int) + msg.size ≤ 1048576 := by omega
        go_enter Tryd.func12, Tryd.ntmps12
        go_wp2
        go_ret
        exact ⟨ret_bool H.out, rfl⟩
      · have H : Hid (false = decide (s.size + msg.size ≤ 1048576)) := hide (by rw [decide_eq_false h3])
        have h3' : (1048576 : Int) < s.size + msg.size := by omega
        go_enter Tryd.func12, Tryd.ntmps12
        go_wp2
        go_ret
        exact ⟨ret_bool H.out, rfl⟩
    · have H : Hid (false = decide (s.size + msg.size ≤ 1048576)) := hide (by rw [decide_eq_false (by omega)])
      have h2' : (1048576 : Int) < msg.size := by omega
      go_enter Tryd.func12, Tryd.ntmps12
      go_wp2
      go_ret
      exact ⟨ret_bool H.out, rfl⟩
  · have H : Hid (false = decide (s.size + msg.size ≤ 1048576)) := hide (by rw [decide_eq_false (by omega)])
    have h' : (1048576 : Int) < s.size := by omega
    go_enter Tryd.func12, Tryd.ntmps12
    go_wp2
    go_ret
    exact ⟨ret_bool H.out, rfl⟩
/-! ### the plain law -/
theorem ade_want (s : ByteArray) (q : Nat) (la : Int) : ade s q la = (decide (s.size ≤ q) || (decide ((q : Int) = la) && el (s.extract q s.size))) := by
  have e1 : ∀ m : ByteArray, m.size = 3 → am s q la m = (decide ((q : Int) = la) && ml (s.extract q s.size) m) := by
    intro m hm; unfold am ml; rw [hm, bbf_extract]
  have e2 : pfx (s.extract q s.size) ⟨#[37]⟩ = decide (bt s q = 37) := by rw [pfx1, bt_extract]; rfl
  unfold ade el
  rw [e1 _ rfl, e1 _ rfl, e2]
  cases decide (s.size ≤ q) <;> cases decide ((q : Int) = la) <;> cases ml (s.extract q s.size) ⟨#[45, 45, 45]⟩ <;> cases ml (s.extract q s.size) ⟨#[46, 46, 46]⟩ <;> cases decide (bt s q = 37) <;> rfl
end Go.Proofs.Qxb6609232aDoor.Str
