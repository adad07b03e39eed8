import Derived.Test.Qxb6609232aLaw
namespace Go.Proofs.Qxb6609232a.T
open Go.RowKit Go.Maps Go.ChangeShapes Go.WideShapes Go.ChangeAt Go.WideMaps Go.WideElems
set_option linter.unusedVariables false
attribute [local go_sem ↓] Go.wp_at_zero Go.wp_at_succ
/-- the argument's cells in a later world -/
theorem Arg.below {w w' : World} {ss : List Step} {ad : Option Addr} {b off : Nat} (h : Arg w ss ad b off) (hb : Below w.heap.size w w') : Arg w' ss ad b off := by
  refine ⟨h.ad, fun k s hs f v hv => ?_, h.siz⟩
  have e := h.cell k s hs f v hv
  have hlt : b < w.heap.size := by
    have := World.block_lt_of_cell? w _ e
    exact this
  rw [hb.cell (p := ⟨b, off + k * 15 + f, none⟩) hlt]; exact e
set_option maxRecDepth 100000 in
set_option maxHeartbeats 6400000 in
theorem main (ss : List Step) (ad : Option Addr) (b off cap : Nat) (w : World) (h : Arg w ss ad b off) (hl : ss.length ≤ maxLen) :
    Calls Try.prog 3 #[.slice ad ss.length cap] w fun e w' => e = .returned (.bool true) ∧ Below w.heap.size w w' := by
  have HA := hide h
  have HB := hide (bytes4 ss ad b off cap w h hl)
  clear h
  unfold maxLen at hl
  generalize hlen : ss.length = len at *
  have HL := hide hlen
  clear hlen
  go_enter Try.func3, Try.ntmps3
  go_wp2_with fail
  refine HB.out.mono ?_
  rintro e w' ⟨⟨x, rfl⟩, rfl⟩
  cases x
  · go_wp2_with fail
    go_ret
    exact ⟨rfl, Below.refl _ _⟩
  by_cases h1 : len ≤ 16384
  · have h1' : (len : Int) ≤ 16384 := by omega
    go_wp2_with fail
    go_loop [3, 4] (fun z i => ∃ (k : Nat) (y : Int), k ≤ len ∧ i = .int .i64 k ∧ z = .int .i64 y) (fun _ i => len - (intOf i).toNat)
    case atStart => exact ⟨0, _, by omega, rfl, rfl⟩
    case round =>
      obtain ⟨k, y, hk, rfl, rfl⟩ := hrel
      by_cases hlt : k < len
      · obtain ⟨s, hs⟩ : ∃ s, ss[k]? = some s := ⟨_, List.getElem?_eq_getElem (by have := HL.out; omega)⟩
        obtain rfl := HA.out.ad (by have := HL.out; omega)
        have hlt' : (k : Int) < len := by omega
        have c10 : w'.cell? ⟨b, off + k * 15 + 10, none⟩ = some (.string s.a) := HA.out.cell k s hs 10 _ rfl
        go_wp2_with fail
        · go_ret
          exact ⟨rfl, Below.refl _ _⟩
        · go_ret
          exact ⟨rfl, Below.refl _ _⟩
        · go_round
          case rel => exact ⟨k + 1, _, by omega, by go_num, rfl⟩
          case measure => simp [intOf]; omega
      · have hke : k = len := by omega
        go_wp2_with fail
        refine (newReader w'.heap.size w' (Nat.le_refl _)).mono ?_
        rintro e w1 ⟨rfl, hb1, hx1⟩
        go_wp2_with fail
        go_loopw [6] (fun i wr => ∃ k : Nat, k ≤ len ∧ i = .int .i64 k ∧ RX w'.heap.size wr (w'.heap.size + 1) w'.heap.size (recs ss k) (Dm (keys ss) k) ∧ Below w'.heap.size w' wr) (fun i _ => len - (intOf i).toNat)
        case atStart => exact ⟨0, by omega, rfl, hx1, hb1⟩
        case round =>
          obtain ⟨k2, hk2, rfl, hx, hb⟩ := hrel
          by_cases hlt2 : k2 < len
          · obtain ⟨s, hs⟩ : ∃ s, ss[k2]? = some s := ⟨_, List.getElem?_eq_getElem (by have := HL.out; omega)⟩
            obtain rfl := HA.out.ad (by have := HL.out; omega)
            have hlt2' : (k2 : Int) < len := by omega
            have ha := HA.out.below hb
            have c0 : wr.cell? ⟨b, off + k2 * 15, none⟩ = some (.int .u32 s.r0) := ha.cell k2 s hs 0 _ rfl
            have c1 : wr.cell? ⟨b, off + k2 * 15 + 1, none⟩ = some (.int .u32 s.r1) := ha.cell k2 s hs 1 _ rfl
            have c2 : wr.cell? ⟨b, off + k2 * 15 + 2, none⟩ = some (.int .u32 s.r2) := ha.cell k2 s hs 2 _ rfl
            have c3 : wr.cell? ⟨b, off + k2 * 15 + 3, none⟩ = some (.int .u32 s.r3) := ha.cell k2 s hs 3 _ rfl
            have c4 : wr.cell? ⟨b, off + k2 * 15 + 4, none⟩ = some (.int .u8 s.r4) := ha.cell k2 s hs 4 _ rfl
            have c5 : wr.cell? ⟨b, off + k2 * 15 + 5, none⟩ = some (.int .u8 s.r5) := ha.cell k2 s hs 5 _ rfl
            have c6 : wr.cell? ⟨b, off + k2 * 15 + 6, none⟩ = some (.int .u8 s.r6) := ha.cell k2 s hs 6 _ rfl
            have c7 : wr.cell? ⟨b, off + k2 * 15 + 7, none⟩ = some (.int .u8 s.r7) := ha.cell k2 s hs 7 _ rfl
            have c8 : wr.cell? ⟨b, off + k2 * 15 + 8, none⟩ = some (.int .i64 s.p0) := ha.cell k2 s hs 8 _ rfl
            have c9 : wr.cell? ⟨b, off + k2 * 15 + 9, none⟩ = some (.int .i64 s.p1) := ha.cell k2 s hs 9 _ rfl
            have c10 : wr.cell? ⟨b, off + k2 * 15 + 10, none⟩ = some (.string s.a) := ha.cell k2 s hs 10 _ rfl
            have c11 : wr.cell? ⟨b, off + k2 * 15 + 11, none⟩ = some (.int .u8 s.p3) := ha.cell k2 s hs 11 _ rfl
            have c12 : wr.cell? ⟨b, off + k2 * 15 + 12, none⟩ = some (.bool s.p4) := ha.cell k2 s hs 12 _ rfl
            have c13 : wr.cell? ⟨b, off + k2 * 15 + 13, none⟩ = some (.bool s.p5) := ha.cell k2 s hs 13 _ rfl
            have c14 : wr.cell? ⟨b, off + k2 * 15 + 14, none⟩ = some (.bool s.p6) := ha.cell k2 s hs 14 _ rfl
            clear ha
            have Hadd := hide (zzadd w'.heap.size (w'.heap.size + 1) w'.heap.size (recs ss k2) (Dm (keys ss) k2) s.r0 s.r1 s.r2 s.r3 s.r4 s.r5 s.r6 s.r7 s.p0 s.p1 s.p3 s.p4 s.p5 s.p6 s.a _ (by simp; have := hb.size; omega) (hx.alloc (.cells s.cells.toArray 26)) (by rw [recs_len ss k2 (by have := HL.out; omega)]; omega) (HA.out.siz k2 s hs))
            rw [recs_len ss k2 (by have := HL.out; omega)] at Hadd
            have HX := hide hx
            have HBe := hide hb
            have Hs := hide hs
            clear hx hb hs
            go_wp2_with fail
            refine Hadd.out.mono ?_
            rintro e w2 ⟨rfl, hb2, hx2⟩
            have HX2 := hide hx2
            have HB2 := hide hb2
            clear hx2 hb2
            go_wp2_with fail
            go_roundw
            case rel =>
              refine ⟨k2 + 1, by omega, by go_num, ?_, (HBe.out.alloc HBe.out.size _).trans HB2.out⟩
              rw [recs_succ ss k2 s Hs.out, Dm_step ss k2 s Hs.out]
              exact HX2.out
            case measure => simp [intOf]; omega
          · have hke2 : k2 = len := by omega
            obtain rfl := hke2
            have HX := hide hx
            have HBe := hide hb
            have Hrl := hide (recs_len ss k2 (by have := HL.out; omega))
            have Hcount := hide (recordCount _ _ _ _ _ wr hx)
            rw [Hrl.out] at Hcount
            clear hx hb
            go_wp2_with (go_at_call 7; refine Hcount.out.mono ?_; rintro e w3 ⟨rfl, rfl⟩)
            go_loopw [9, 10] (fun l i wr => ∃ k : Nat, k ≤ k2 ∧ i = .int .i64 k ∧ l = .int .i64 (cnt (keys ss) k2 k) ∧ RX w'.heap.size wr (w'.heap.size + 1) w'.heap.size (recs ss k2) (Dm (keys ss) k2) ∧ Below w'.heap.size w' wr) (fun _ i _ => k2 - (intOf i).toNat)
            case atStart => exact ⟨0, by omega, rfl, rfl, HX.out, HBe.out⟩
            case round =>
              obtain ⟨k3, hk3, rfl, rfl, hx, hb⟩ := hrel
              have hcl := cnt_le (keys ss) k2 k3
              by_cases hlt3 : k3 < k2
              · obtain ⟨s, hs⟩ : ∃ s, ss[k3]? = some s := ⟨_, List.getElem?_eq_getElem (by have := HL.out; omega)⟩
                obtain rfl := HA.out.ad (by have := HL.out; omega)
                have hlt3' : (k3 : Int) < k2 := by omega
                have ha := HA.out.below hb
                have c0 : wr.cell? ⟨b, off + k3 * 15, none⟩ = some (.int .u32 s.r0) := ha.cell k3 s hs 0 _ rfl
                have c1 : wr.cell? ⟨b, off + k3 * 15 + 1, none⟩ = some (.int .u32 s.r1) := ha.cell k3 s hs 1 _ rfl
                have c2 : wr.cell? ⟨b, off + k3 * 15 + 2, none⟩ = some (.int .u32 s.r2) := ha.cell k3 s hs 2 _ rfl
                have c3 : wr.cell? ⟨b, off + k3 * 15 + 3, none⟩ = some (.int .u32 s.r3) := ha.cell k3 s hs 3 _ rfl
                have c4 : wr.cell? ⟨b, off + k3 * 15 + 4, none⟩ = some (.int .u8 s.r4) := ha.cell k3 s hs 4 _ rfl
                have c5 : wr.cell? ⟨b, off + k3 * 15 + 5, none⟩ = some (.int .u8 s.r5) := ha.cell k3 s hs 5 _ rfl
                have c6 : wr.cell? ⟨b, off + k3 * 15 + 6, none⟩ = some (.int .u8 s.r6) := ha.cell k3 s hs 6 _ rfl
                have c7 : wr.cell? ⟨b, off + k3 * 15 + 7, none⟩ = some (.int .u8 s.r7) := ha.cell k3 s hs 7 _ rfl
                have c8 : wr.cell? ⟨b, off + k3 * 15 + 8, none⟩ = some (.int .i64 s.p0) := ha.cell k3 s hs 8 _ rfl
                have c9 : wr.cell? ⟨b, off + k3 * 15 + 9, none⟩ = some (.int .i64 s.p1) := ha.cell k3 s hs 9 _ rfl
                have c10 : wr.cell? ⟨b, off + k3 * 15 + 10, none⟩ = some (.string s.a) := ha.cell k3 s hs 10 _ rfl
                have c11 : wr.cell? ⟨b, off + k3 * 15 + 11, none⟩ = some (.int .u8 s.p3) := ha.cell k3 s hs 11 _ rfl
                have c12 : wr.cell? ⟨b, off + k3 * 15 + 12, none⟩ = some (.bool s.p4) := ha.cell k3 s hs 12 _ rfl
                have c13 : wr.cell? ⟨b, off + k3 * 15 + 13, none⟩ = some (.bool s.p5) := ha.cell k3 s hs 13 _ rfl
                have c14 : wr.cell? ⟨b, off + k3 * 15 + 14, none⟩ = some (.bool s.p6) := ha.cell k3 s hs 14 _ rfl
                have hsl : ss.length = k2 := HL.out
                have hrg := recs_get ss k3 s hs
                rw [hsl] at hrg
                cases he : s.a.toList.isEmpty
                · have hke : (keys ss).getD k3 [] ≠ [] := by rw [keys_get ss k3 s hs]; intro e; rw [(empty_iff _).2 e] at he; cases he
                  obtain ⟨j, hj1, hj2, hj3, hj4, hj5, hj6⟩ := Dm_end (keys ss) k2 k3 hlt3 hke
                  rw [keys_get ss k3 s hs] at hj3 hj4 hj5
                  obtain ⟨sj, hsj⟩ : ∃ sj, ss[j]? = some sj := ⟨_, List.getElem?_eq_getElem (by omega)⟩
                  rw [keys_get ss j sj hsj] at hj3
                  have hja : sj.a = s.a := Go.WideShapes.bytes_inj hj3
                  have cj : wr.cell? ⟨b, off + j * 15 + 10, none⟩ = some (.string s.a) := by rw [← hja]; exact ha.cell j sj hsj 10 _ rfl
                  have Hrec := hide (fun (w9 : World) (h9 : RX w'.heap.size w9 (w'.heap.size + 1) w'.heap.size (recs ss k2) (Dm (keys ss) k2)) => recordAt w'.heap.size (w'.heap.size + 1) w'.heap.size k3 (recs ss k2) (Dm (keys ss) k2) w9 h9 (by rw [Hrl.out]; omega) s.r0 s.r1 s.r2 s.r3 s.r4 s.r5 (bits .or .u8 s.r6 16) s.r7 (by rw [hrg]; unfold recOf rec1; rw [he]; rfl))
                  have Hanc := hide (fun (w9 : World) (h9 : RX w'.heap.size w9 (w'.heap.size + 1) w'.heap.size (recs ss k2) (Dm (keys ss) k2)) => anchorAt_v w'.heap.size (w'.heap.size + 1) w'.heap.size (recs ss k2) (Dm (keys ss) k2) s.a j w9 h9 (HA.out.siz k3 s hs) hj4 hj5)
                  have Hcs : Hid (cnt (keys ss) k2 (k3 + 1) = cnt (keys ss) k2 k3 + if j = k3 then 1 else 0) := hide (by rw [cnt_succ, hj6]; simp only [decide_eq_true_eq])
                  have HX3 := hide hx
                  have HB3 := hide hb
                  have hb0 := World.block_lt_of_cell? wr _ c0
                  have hb0' : b < wr.heap.size := hb0
                  clear ha hsl hrg hx hb hs hj3 hj4 hj5 hj6 hsj hja hke hb0
                  have dj1 : decide ((j : Int) < (k3 : Int)) = false := decide_eq_false (by omega)
                  have dj2 : decide ((k2 : Int) ≤ (j : Int)) = false := decide_eq_false (by omega)
                  have dj3 : decide (j < k3) = false := decide_eq_false (by omega)
                  have dj4 : decide (k2 ≤ j) = false := decide_eq_false (by omega)
                  have ij1 : (k3 : Int) ≤ j := by omega
                  have ij2 : (j : Int) < k2 := by omega
                  have ij0 : (0 : Int) ≤ j := by omega
                  go_wp2_with (first | (go_at_call 8; refine (Hrec.out _ (HX3.out.alloc _)).mono ?_; rintro e w4 ⟨rfl, n4, rfl⟩) | (go_at_call 9; refine (Hanc.out _ ((HX3.out.alloc _).drewN n4)).mono ?_; rintro e w5 ⟨rfl, rfl⟩))
                  go_quiet (fail)
                  by_cases hjk : j = k3
                  · have hjb : ((j : Int) == (k3 : Int)) = true := beq_iff_eq.2 (by omega)
                    rw [if_pos hjk] at Hcs
                    clear hjk
                    go_wp2_with fail
                    exact ⟨⟨k3 + 1, by omega, by go_num, by rw [Hcs.out]; go_num, (HX3.out.alloc _).drewN _, drewN_below (HB3.out.alloc HB3.out.size _) _⟩, by simp [intOf]; omega⟩
                  · have hjb : ((j : Int) == (k3 : Int)) = false := beq_eq_false_iff_ne.2 (by omega)
                    rw [if_neg hjk] at Hcs
                    clear hjk
                    go_wp2_with fail
                    exact ⟨⟨k3 + 1, by omega, by go_num, by rw [Hcs.out]; go_num, (HX3.out.alloc _).drewN _, drewN_below (HB3.out.alloc HB3.out.size _) _⟩, by simp [intOf]; omega⟩
                · have Hrec := hide (fun (w9 : World) (h9 : RX w'.heap.size w9 (w'.heap.size + 1) w'.heap.size (recs ss k2) (Dm (keys ss) k2)) => recordAt w'.heap.size (w'.heap.size + 1) w'.heap.size k3 (recs ss k2) (Dm (keys ss) k2) w9 h9 (by rw [Hrl.out]; omega) s.r0 s.r1 s.r2 s.r3 s.r4 s.r5 s.r6 s.r7 (by rw [hrg]; unfold recOf rec1; rw [he]; rfl))
                  have Hcs : Hid (cnt (keys ss) k2 (k3 + 1) = cnt (keys ss) k2 k3) := hide (by rw [cnt_succ, lastB_empty _ _ _ (by rw [keys_get ss k3 s hs]; exact (empty_iff _).1 he)]; rfl)
                  have HX3 := hide hx
                  have HB3 := hide hb
                  clear ha hsl hrg hx hb hs
                  go_wp2_with (go_at_call 8; refine (Hrec.out _ (HX3.out.alloc _)).mono ?_; rintro e w4 ⟨rfl, n4, rfl⟩)
                  exact ⟨⟨k3 + 1, by omega, by go_num, by rw [Hcs.out], (HX3.out.alloc _).drewN n4, drewN_below (HB3.out.alloc HB3.out.size _) n4⟩, by simp [intOf]; omega⟩
              · have hke3 : k3 = k2 := by omega
                obtain rfl := hke3
                have Hnone := hide (anchorAt_none w'.heap.size (w'.heap.size + 1) w'.heap.size (recs ss k3) (Dm (keys ss) k3) ⟨#[]⟩ wr hx (by decide) (Dm_none (keys ss) k3))
                have Hcnt := hide (anchorCount _ _ _ _ _ wr hx)
                rw [Dm_size] at Hcnt
                have HB3 := hide hb
                clear hx hb
                have heq : (((cnt (keys ss) k3 k3 : Nat) : Int) == ((cnt (keys ss) k3 k3 : Nat) : Int)) = true := beq_iff_eq.2 rfl
                go_wp2_with (first | (go_at_call 9; refine Hnone.out.mono ?_; rintro e w4 ⟨rfl, rfl⟩) | (go_at_call 10; refine Hcnt.out.mono ?_; rintro e w5 ⟨rfl, rfl⟩))
                go_ret
                exact ⟨rfl, HB3.out⟩
  · have h1' : (16384 : Int) < len := by omega
    go_wp2_with fail
    go_ret
    exact ⟨rfl, Below.refl _ _⟩
end Go.Proofs.Qxb6609232a.T
