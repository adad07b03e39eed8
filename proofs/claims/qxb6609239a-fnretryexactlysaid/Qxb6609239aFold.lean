import Derived.Test.Qxb6609239aDnn
import Derived.Laws.IdiomStrings
import Derived.Laws.MakeOwn
namespace Go.Proofs.Qxb6609239a.R
open Go.RowKit
set_option linter.unusedVariables false
attribute [local go_sem ↓] Go.wp_at_zero Go.wp_at_succ
/-! ### all that lay there lies there as it was -/
def Old (w w' : World) : Prop := Below w.heap.size w w'
theorem Old.refl (w : World) : Old w w := Below.refl _ _
theorem Old.trans {a b c : World} (h : Old a b) (k : Old b c) : Old a c := Below.trans h (Below.mono k h.size)
theorem drewN_below {B : Nat} {w w' : World} (h : Below B w w') (n : Nat) : Below B w (w'.drewN n) := ⟨h.os, h.tape, h.output, h.size, h.block⟩
theorem Old.drewN {a w : World} (h : Old a w) (n : Nat) : Old a (w.drewN n) := drewN_below h n
theorem Old.drew {a w : World} (h : Old a w) : Old a w.drew := Below.drew h
theorem Old.alloc {a w : World} (h : Old a w) (o : Obj) : Old a (w.alloc o) := Below.alloc h h.size o
theorem Old.set {a w : World} (h : Old a w) {p : Addr} (hp : a.heap.size ≤ p.block) (v : Value) : Old a (w.setCell p v) := Below.setCell h hp v
theorem Old.size {a w : World} (h : Old a w) : a.heap.size ≤ w.heap.size := Below.size h
theorem Drawn.old {w w' : World} (h : Drawn w w') : Old w w' := by obtain ⟨n, rfl⟩ := h; exact (Old.refl w).drewN n
theorem lt_of_some {w : World} {b : Nat} {o : Obj} (h : w.heap[b]? = some o) : b < w.heap.size := (Array.getElem?_eq_some_iff.1 h).1
theorem Old.heap {w w' : World} (h : Old w w') {b : Nat} {o : Obj} (hb : w.heap[b]? = some o) : w'.heap[b]? = some o := (Below.block h b (lt_of_some hb)).trans hb
theorem cell_lt {w : World} {b i : Nat} {sp} {v : Value} (h : w.cell? ⟨b, i, sp⟩ = some v) : b < w.heap.size := by
  by_cases hb : b < w.heap.size
  · exact hb
  · simp [World.cell?, Array.getElem?_eq_none (Nat.le_of_not_lt hb)] at h
theorem Old.cell {w w' : World} (h : Old w w') {b i : Nat} {sp} {v : Value} (hb : w.cell? ⟨b, i, sp⟩ = some v) : w'.cell? ⟨b, i, sp⟩ = some v := (Below.cell h (cell_lt hb)).trans hb
theorem frozen_of_row {w : World} {g : Nat} {cs : Array Value} {t : TypeId} (j : Nat) (hg : w.heap[g]? = some (.cells cs t (0, 0))) : w.frozen? ⟨g, j, none⟩ = false := by
  simp [World.frozen?, hg]
theorem add_plain (b o i : Nat) : (⟨b, o, none⟩ : Addr).add i = ⟨b, o + i, none⟩ := by
  unfold Addr.add
  by_cases h : i = 0
  · subst h; rfl
  · simp [h]
/-! ### make -/
theorem bytes_le {a n : Nat} (h : a * n ≤ 281474976710656) : (a : Int) * (n : Int) ≤ 281474976710656 := by
  rw [← Int.natCast_mul]; omega

theorem make_eq {t e : TypeId} {z : Value} {size bytes : Nat} (ht : Try.prog.underlying t = some (.slice e)) (hi : (Try.prog.info? e).map (fun i => (i.zero, i.size, i.bytes)) = some (some z, size, bytes)) (hb : bytes ≤ 4096) (n : Nat) (hn : n ≤ 1048576) :
    ∃ Z : Array Value, Z.size = n * size ∧ ∀ w : World, (Instr.makeSlice t (.int .i64 (n : Int)) (.int .i64 (n : Int))).run Try.prog w = .ok (.slice (some ⟨w.heap.size, 0, none⟩) n n) (w.alloc (.cells Z e)) := by
  obtain ⟨i0, hi0, hz0, hz1, hz2⟩ := info_parts hi
  refine ⟨madeCells z.cells (n * size), size_madeCells _ _, fun w => ?_⟩
  have hm : i0.bytes * n ≤ 4096 * 1048576 := Nat.mul_le_mul (by omega) hn
  have := run_make (P := Try.prog) w t e i0 _ ht hi0 hz0 .i64 .i64 (n : Int) (n : Int) (by omega) (by omega) (bytes_le (by omega)) (by omega)
  rw [hz1] at this
  simpa using this
theorem info5 : (Try.prog.info? 5).map (fun i => (i.zero, i.size, i.bytes)) = some (some (.int .u8 0), 1, 1) := by kernel_rfl
theorem fold_toList (a : ByteArray) : (⟨(fold a).data.toList.toArray⟩ : ByteArray) = fold a := rfl
theorem conv_fold {a : ByteArray} {w : World} {g : Nat} {cur : Array Value} (hh : w.heap[g]? = some (.cells cur 5 (0, 0))) (hall : ∀ j (h1 : j < a.size), cur[j]? = some (.int .u8 ((low a[j]).toNat : Int))) :
    (convert 99 9 (.slice (some ⟨g, 0, none⟩) a.size a.size)).run Try.prog w = .ok (.string (fold a)) w := by
  have hsz : (fold a).data.toList.length = a.size := by rw [Array.length_toList]; exact fold_size a
  have := run_convert_bytes_back (P := Try.prog) w 99 9 5 ⟨g, 0, none⟩ a.size (fold a).data.toList Try.underlying99 Try.underlying5 Try.underlying9 (fun j hj => by
    have hj' : j < a.size := by omega
    have := (cell_of_row _ _ j _ _ _ hh).trans (hall j hj')
    have e1 : (fold a).data.toList[j] = low a[j] := by
      rw [Array.getElem_toList]; exact fold_get a j hj'
    rw [e1]
    rw [add_plain, Nat.zero_add]; exact this)
  rw [hsz, fold_toList] at this; exact this
set_option maxHeartbeats 2000000 in
theorem fold23 (a : ByteArray) (w : World) (ha : a.size ≤ 1048576) :
    Calls Try.prog 23 #[.string a] w fun e w' => e = .returned (.string (fold a)) ∧ Old w w' := by
  obtain ⟨Z, hZ, mk⟩ := make_eq (t := 99) Try.underlying99 info5 (by decide) a.size ha
  have e0 : (0 : Int) ≤ a.size := by omega
  go_enter Try.func23, Try.ntmps23
  go_wp2
  go_loopw [4] (fun i w' => ∃ (k : Nat) (cur : Array Value), k ≤ a.size ∧ i = .int .i64 k ∧ w'.heap[w.heap.size]? = some (.cells cur 5 (0, 0)) ∧ cur.size = a.size ∧ (∀ j (h1 : j < a.size), j < k → cur[j]? = some (.int .u8 ((low a[j]).toNat : Int))) ∧ Old w w') (fun i _ => a.size - (intOf i).toNat)
  case atStart => exact ⟨0, Z, Nat.zero_le _, rfl, heap_alloc_new w _, by omega, by omega, (Old.refl w).alloc _⟩
  case round =>
    obtain ⟨k, cur, hk, rfl, hh, hcs, hall, hw⟩ := hrel
    have HW := hide hw
    have HA := hide hall
    have HH := hide hh
    clear hw hall
    by_cases hlt : k < a.size
    · have i1 : (k : Int) < a.size := by omega
      have ff := frozen_of_row k hh
      have cc : ∃ v, cur[k]? = some v := ⟨_, Array.getElem?_eq_getElem (by omega)⟩
      obtain ⟨v0, cc⟩ := cc
      have c0 := (cell_of_row _ _ k _ _ _ hh).trans cc
      have hx : Hid (low a[k] = low a[k]) := hide rfl
      clear hh cc
      by_cases p1 : 65 ≤ a[k].toNat
      · by_cases p2 : a[k].toNat ≤ 90
        · have q1 : (65 : Int) ≤ a[k].toNat := by omega
          have q2 : (a[k].toNat : Int) ≤ 90 := by omega
          have HL : Hid ((a[k].toNat : Int) + 32 = ((low a[k]).toNat : Int)) := hide (by rw [← lowI_low]; unfold lowI; rw [if_pos ⟨q1, q2⟩])
          go_wp2
          go_roundw
          case rel =>
            refine ⟨k + 1, _, by omega, by go_num, heap_setCell_same _ _ _ _ _ _ HH.out, by simpa using hcs, ?_, HW.out.set (Nat.le_refl _) _⟩
            intro j h1 hj
            rw [Array.getElem?_setIfInBounds]
            by_cases hjk : k = j
            · subst hjk; rw [if_pos rfl, if_pos (by omega), HL.out]
            · rw [if_neg hjk]; exact HA.out j h1 (by omega)
          case measure => simp [intOf]; omega
        · have q1 : (65 : Int) ≤ a[k].toNat := by omega
          have q2 : ¬ (a[k].toNat : Int) ≤ 90 := by omega
          have HL : Hid ((a[k].toNat : Int) = ((low a[k]).toNat : Int)) := hide (by rw [← lowI_low]; unfold lowI; rw [if_neg (by omega)])
          go_wp2
          go_roundw
          case rel =>
            refine ⟨k + 1, _, by omega, by go_num, heap_setCell_same _ _ _ _ _ _ HH.out, by simpa using hcs, ?_, HW.out.set (Nat.le_refl _) _⟩
            intro j h1 hj
            rw [Array.getElem?_setIfInBounds]
            by_cases hjk : k = j
            · subst hjk; rw [if_pos rfl, if_pos (by omega), HL.out]
            · rw [if_neg hjk]; exact HA.out j h1 (by omega)
          case measure => simp [intOf]; omega
      · have q1 : ¬ (65 : Int) ≤ a[k].toNat := by omega
        have HL : Hid ((a[k].toNat : Int) = ((low a[k]).toNat : Int)) := hide (by rw [← lowI_low]; unfold lowI; rw [if_neg (by omega)])
        go_wp2
        go_roundw
        case rel =>
          refine ⟨k + 1, _, by omega, by go_num, heap_setCell_same _ _ _ _ _ _ HH.out, by simpa using hcs, ?_, HW.out.set (Nat.le_refl _) _⟩
          intro j h1 hj
          rw [Array.getElem?_setIfInBounds]
          by_cases hjk : k = j
          · subst hjk; rw [if_pos rfl, if_pos (by omega), HL.out]
          · rw [if_neg hjk]; exact HA.out j h1 (by omega)
        case measure => simp [intOf]; omega
    · have i1 : ¬ (k : Int) < a.size := by omega
      have hcv := conv_fold hh (fun j h1 => HA.out j h1 (by omega))
      clear hh
      go_wp2
      go_ret
      exact ⟨rfl, HW.out⟩
end Go.Proofs.Qxb6609239a.R
