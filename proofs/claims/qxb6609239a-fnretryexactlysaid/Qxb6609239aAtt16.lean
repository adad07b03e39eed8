import Derived.Test.Qxb6609239aAtt
import Derived.Deep.RegionHeld3
namespace Go.Proofs.Qxb6609239a.R
open Go.RowKit
set_option linter.unusedVariables false
attribute [local go_sem ↓] Go.wp_at_zero Go.wp_at_succ
abbrev z68 : Array Value := #[.int .u8 0, .int .u8 0, .pointer none, .pointer none, .pointer none, .pointer none, .pointer none, .bool false, .string ⟨#[]⟩]
structure G (wr W2 : World) (ga : Nat) (t' : TR) : Prop where
  old : Old wr W2
  ge : wr.heap.size ≤ ga
  blk : W2.heap[ga]? = some (.cells t'.cells 68 (0, 0))
  tok : ∀ W : World, (∀ b, wr.heap.size ≤ b → b < W2.heap.size → W.heap[b]? = W2.heap[b]?) → TOK W t'
theorem G.ofAlloc {wr w1 : World} {t' : TR} {cs : Array Value} (hc : t'.cells = cs) (hk : ∀ W : World, (∀ b, wr.drew.heap.size ≤ b → b < w1.heap.size → W.heap[b]? = w1.heap[b]?) → TOK W t') (ho : Old wr w1) : G wr (w1.alloc (.cells cs 68)) w1.heap.size t' :=
  ⟨ho.alloc _, ho.size, hc ▸ heap_alloc_new w1 _, fun W hW => hk W (fun b h1 h2 => (hW b h1 (by simp; omega)).trans (Below.heap_alloc _ _ _ h2))⟩
theorem G.ofSet {wr w1 : World} {t' : TR} {o : Obj} {v0 v1 v2 v3 v4 v5 v6 v7 v8 : Value} (hc : t'.cells = #[v0, v1, v2, v3, v4, v5, v6, v7, v8]) (hb : w1.heap[wr.heap.size]? = some (.cells z68 68 (0, 0)))
    (hk : ∀ W : World, (∀ b, (wr.alloc o).drew.heap.size ≤ b → b < w1.heap.size → W.heap[b]? = w1.heap[b]?) → TOK W t') (ho : Old wr w1) : G wr (((((((((w1.setCell ⟨wr.heap.size, 0, none⟩ v0).setCell ⟨wr.heap.size, 1, none⟩ v1).setCell ⟨wr.heap.size, 2, none⟩ v2).setCell ⟨wr.heap.size, 3, none⟩ v3).setCell ⟨wr.heap.size, 4, none⟩ v4).setCell ⟨wr.heap.size, 5, none⟩ v5).setCell ⟨wr.heap.size, 6, none⟩ v6).setCell ⟨wr.heap.size, 7, none⟩ v7).setCell ⟨wr.heap.size, 8, none⟩ v8) wr.heap.size t' := by
  have o0 := ho.set (p := ⟨wr.heap.size, 0, none⟩) (Nat.le_refl _) v0
  have o1 := o0.set (p := ⟨wr.heap.size, 1, none⟩) (Nat.le_refl _) v1
  have o2 := o1.set (p := ⟨wr.heap.size, 2, none⟩) (Nat.le_refl _) v2
  have o3 := o2.set (p := ⟨wr.heap.size, 3, none⟩) (Nat.le_refl _) v3
  have o4 := o3.set (p := ⟨wr.heap.size, 4, none⟩) (Nat.le_refl _) v4
  have o5 := o4.set (p := ⟨wr.heap.size, 5, none⟩) (Nat.le_refl _) v5
  have o6 := o5.set (p := ⟨wr.heap.size, 6, none⟩) (Nat.le_refl _) v6
  have o7 := o6.set (p := ⟨wr.heap.size, 7, none⟩) (Nat.le_refl _) v7
  have o8 := o7.set (p := ⟨wr.heap.size, 8, none⟩) (Nat.le_refl _) v8
  have h0 := heap_setCell_same _ wr.heap.size 0 _ _ v0 hb
  have h1 := heap_setCell_same _ wr.heap.size 1 _ _ v1 h0
  have h2 := heap_setCell_same _ wr.heap.size 2 _ _ v2 h1
  have h3 := heap_setCell_same _ wr.heap.size 3 _ _ v3 h2
  have h4 := heap_setCell_same _ wr.heap.size 4 _ _ v4 h3
  have h5 := heap_setCell_same _ wr.heap.size 5 _ _ v5 h4
  have h6 := heap_setCell_same _ wr.heap.size 6 _ _ v6 h5
  have h7 := heap_setCell_same _ wr.heap.size 7 _ _ v7 h6
  have h8 := heap_setCell_same _ wr.heap.size 8 _ _ v8 h7
  refine ⟨o8, Nat.le_refl _, ?_, fun W hW => hk W (fun b h1 h2 => (hW b ?_ ?_).trans ?_)⟩
  · rw [hc]
    simp only [List.setIfInBounds_toArray, List.set_cons_zero, List.set_cons_succ] at h8
    exact h8
  · simp at h1; omega
  · simpa using h2
  · have hne : b ≠ wr.heap.size := by simp at h1; omega
    rw [heap_setCell_other _ _ _ _ hne, heap_setCell_other _ _ _ _ hne, heap_setCell_other _ _ _ _ hne, heap_setCell_other _ _ _ _ hne, heap_setCell_other _ _ _ _ hne, heap_setCell_other _ _ _ _ hne, heap_setCell_other _ _ _ _ hne, heap_setCell_other _ _ _ _ hne, heap_setCell_other _ _ _ _ hne]
theorem AS.next {w : World} {ts : List TR} {k : Nat} {cur : Array Value} {aa : List (Nat × TR)} {wr W2 : World} {ga : Nat} (h : AS w ts k cur aa wr) {t t' : TR} (ht : ts[k]? = some t) (hl : Like t t') (hg : G wr W2 ga t') :
    AS w ts (k + 1) (cur.setIfInBounds k (.pointer (some ⟨ga, 0, none⟩))) (aa ++ [(ga, t')]) (W2.setCell ⟨w.heap.size, k, none⟩ (.pointer (some ⟨ga, 0, none⟩))) := by
  have hlt := lt_of_some h.heap
  have hge := hg.ge
  have hsz := hg.old.size
  refine h.put ht hl (by simpa using hsz) (fun b h1 h2 => (heap_setCell_other _ _ _ _ h2).trans (Below.block hg.old b h1)) (heap_setCell_same _ _ _ _ _ _ (hg.old.heap h.heap)) (by omega) ((heap_setCell_other _ _ _ _ (by show ga ≠ w.heap.size; omega)).trans hg.blk) (fun W hW => hg.tok W (fun b h1 h2 => (hW b (by omega) (by simpa using h2)).trans (heap_setCell_other _ _ _ _ (by show b ≠ w.heap.size; omega)))) ((h.old.trans hg.old).set (p := ⟨w.heap.size, k, none⟩) (Nat.le_refl _) _)
set_option maxRecDepth 100000 in
set_option maxHeartbeats 6400000 in
theorem att16 (ts : List TR) (ad : Option Addr) (b off cap : Nat) (w : World) (h : Row w 9 TR.cells ts ad b off) (hp : ∀ t ∈ ts, TOK w t) (hl : ts.length ≤ 1048576) :
    Calls Try.prog 16 #[.slice ad ts.length cap] w fun e w' => e = .returned (.slice (some ⟨w.heap.size, 0, none⟩) ts.length ts.length) ∧ ∃ cur aa, AS w ts ts.length cur aa w' := by
  obtain ⟨Z, hZ, mk⟩ := make_eq (t := 41) Try.underlying41 info69 (by decide) ts.length hl
  have HR := hide h
  have HP := hide hp
  have e0 : (0 : Int) ≤ ts.length := by omega
  clear h hp
  go_enter Try.func16, Try.ntmps16
  go_wp2
  go_loopw [4] (fun i w' => ∃ (k : Nat) (cur : Array Value) (aa : List (Nat × TR)), k ≤ ts.length ∧ i = .int .i64 k ∧ AS w ts k cur aa w') (fun i _ => ts.length - (intOf i).toNat)
  case atStart => exact ⟨0, Z, [], Nat.zero_le _, rfl, ⟨heap_alloc_new w _, by omega, rfl, fun j a h => by simp at h, fun j a t h => by simp at h, fun a h => by simp at h, (Old.refl w).alloc _⟩⟩
  case round =>
    obtain ⟨k, cur, aa, hk, rfl, hF⟩ := hrel
    have HF := hide hF
    by_cases hlt : k < ts.length
    · obtain ⟨x, hx⟩ : ∃ x, ts[k]? = some x := ⟨_, List.getElem?_eq_getElem hlt⟩
      have HX := hide hx
      have i1 : (k : Int) < ts.length := by omega
      have R := HR.out.old hF.old
      have T := (HP.out x (List.mem_of_getElem? hx)).old hF.old
      obtain rfl := R.at_ (by omega)
      have HQ : Hid (∀ W, Old wr W → _) := hide (fun W ho => req31' x W (T.old ho))
      have HK : Hid (∀ W, Old wr W → (W.cell? ⟨b, off + k * 9, none⟩ = some (.int .u8 x.rule) ∧ W.cell? ⟨b, off + k * 9 + 1, none⟩ = some (.int .u8 x.route) ∧ W.cell? ⟨b, off + k * 9 + 2, none⟩ = some (ptr x.pm) ∧ W.cell? ⟨b, off + k * 9 + 3, none⟩ = some (ptr x.ps) ∧ W.cell? ⟨b, off + k * 9 + 4, none⟩ = some (ptr x.pd) ∧ W.cell? ⟨b, off + k * 9 + 5, none⟩ = some (ptr x.pp) ∧ W.cell? ⟨b, off + k * 9 + 6, none⟩ = some (ptr x.pa) ∧ W.cell? ⟨b, off + k * 9 + 7, none⟩ = some (.bool x.ma) ∧ W.cell? ⟨b, off + k * 9 + 8, none⟩ = some (.string x.rej))) := hide fun W ho => ⟨ho.cell (R.cell k x hx 0 _ rfl), ho.cell (R.cell k x hx 1 _ rfl), ho.cell (R.cell k x hx 2 _ rfl), ho.cell (R.cell k x hx 3 _ rfl), ho.cell (R.cell k x hx 4 _ rfl), ho.cell (R.cell k x hx 5 _ rfl), ho.cell (R.cell k x hx 6 _ rfl), ho.cell (R.cell k x hx 7 _ rfl), ho.cell (R.cell k x hx 8 _ rfl)⟩
      clear hF R hx T
      go_wp2
      go_region_held3 (fun W => W.cell? ⟨b, off + k * 9, none⟩ = some (.int .u8 x.rule) ∧ W.cell? ⟨b, off + k * 9 + 1, none⟩ = some (.int .u8 x.route) ∧ W.cell? ⟨b, off + k * 9 + 2, none⟩ = some (ptr x.pm) ∧ W.cell? ⟨b, off + k * 9 + 3, none⟩ = some (ptr x.ps) ∧ W.cell? ⟨b, off + k * 9 + 4, none⟩ = some (ptr x.pd) ∧ W.cell? ⟨b, off + k * 9 + 5, none⟩ = some (ptr x.pp) ∧ W.cell? ⟨b, off + k * 9 + 6, none⟩ = some (ptr x.pa) ∧ W.cell? ⟨b, off + k * 9 + 7, none⟩ = some (.bool x.ma) ∧ W.cell? ⟨b, off + k * 9 + 8, none⟩ = some (.string x.rej))
        ((refine HK.out _ ?_; first
          | with_reducible exact (Old.refl wr).drew
          | with_reducible exact ((Old.refl wr).alloc _).drew
          | with_reducible exact HOO.out
          | with_reducible exact HOO.out.alloc _
          | (repeat (first | with_reducible exact HOO.out | with_reducible refine Old.set ?_ (Nat.le_refl _) _))))
        (first
          | (go_at_call 31; refine (HQ.out _ ?_).mono ?_; (with_reducible exact (Old.refl wr).drew); rintro e w1 ⟨t', r0, r1, r2, r3, r4, rfl, hl', hcs, hk', ho'⟩; have HL := hide hl'; have HC := hide hcs; have HKK := hide hk'; have HO := hide ho'; have HOO := hide ho'.of_drew; clear hl' hcs hk' ho')
          | (go_at_call 31; refine (HQ.out _ ?_).mono ?_; (with_reducible exact ((Old.refl wr).alloc _).drew); rintro e w1 ⟨t', r0, r1, r2, r3, r4, rfl, hl', hcs, hk', ho'⟩; have HL := hide hl'; have HC := hide hcs; have HKK := hide hk'; have HO := hide ho'; have HOO := hide ((((Old.refl wr).alloc _).drew).trans ho'); have hb68 : w1.heap[wr.heap.size]? = some (.cells z68 68 (0, 0)) := Old.heap ho' (heap_alloc_new wr (.cells z68 68)); have k0 : w1.cell? ⟨wr.heap.size, 0, none⟩ = some (.int .u8 0) := cell_of_row w1 wr.heap.size 0 _ _ _ hb68; have k1 : w1.cell? ⟨wr.heap.size, 1, none⟩ = some (.int .u8 0) := cell_of_row w1 wr.heap.size 1 _ _ _ hb68; have k2 : w1.cell? ⟨wr.heap.size, 2, none⟩ = some (.pointer none) := cell_of_row w1 wr.heap.size 2 _ _ _ hb68; have k3 : w1.cell? ⟨wr.heap.size, 3, none⟩ = some (.pointer none) := cell_of_row w1 wr.heap.size 3 _ _ _ hb68; have k4 : w1.cell? ⟨wr.heap.size, 4, none⟩ = some (.pointer none) := cell_of_row w1 wr.heap.size 4 _ _ _ hb68; have k5 : w1.cell? ⟨wr.heap.size, 5, none⟩ = some (.pointer none) := cell_of_row w1 wr.heap.size 5 _ _ _ hb68; have k6 : w1.cell? ⟨wr.heap.size, 6, none⟩ = some (.pointer none) := cell_of_row w1 wr.heap.size 6 _ _ _ hb68; have k7 : w1.cell? ⟨wr.heap.size, 7, none⟩ = some (.bool false) := cell_of_row w1 wr.heap.size 7 _ _ _ hb68; have k8 : w1.cell? ⟨wr.heap.size, 8, none⟩ = some (.string ⟨#[]⟩) := cell_of_row w1 wr.heap.size 8 _ _ _ hb68; have mm : ∀ i, w1.frozen? ⟨wr.heap.size, i, none⟩ = false := fun i => frozen_of_row i hb68; have lg1 := lt_of_some hb68; have HB68 := hide hb68; clear hb68 hl' hcs hk' ho'))
      · have HG : Hid (G wr _ _ t') := hide (G.ofAlloc HC.out HKK.out HOO.out)
        have ff := frozen_of_row k (HG.out.old.heap HF.out.heap)
        have cc : ∃ v, cur[k]? = some v := ⟨_, Array.getElem?_eq_getElem (by have := HF.out.size; omega)⟩
        obtain ⟨v0, cc⟩ := cc
        have c0 := (cell_of_row _ _ k _ _ _ (HG.out.old.heap HF.out.heap)).trans cc
        clear cc
        generalize w1.alloc (.cells #[.int .u8 x.rule, .int .u8 x.route, .pointer r0, .pointer r1, .pointer r2, .pointer r3, .pointer r4, .bool x.ma, .string x.rej] 68) = W2 at *
        go_wp2
        go_roundw
        case rel => exact ⟨k + 1, _, _, by omega, by go_num, HF.out.next HX.out HL.out HG.out⟩
        case measure => simp [intOf]; omega
      · have HG : Hid (G wr _ _ t') := hide (G.ofSet HC.out HB68.out HKK.out HOO.out)
        have ff := frozen_of_row k (HG.out.old.heap HF.out.heap)
        have cc : ∃ v, cur[k]? = some v := ⟨_, Array.getElem?_eq_getElem (by have := HF.out.size; omega)⟩
        obtain ⟨v0, cc⟩ := cc
        have c0 := (cell_of_row _ _ k _ _ _ (HG.out.old.heap HF.out.heap)).trans cc
        clear cc k0 k1 k2 k3 k4 k5 k6 k7 k8 mm
        generalize (((((((((w1.setCell ⟨wr.heap.size, 0, none⟩ (.int .u8 x.rule)).setCell ⟨wr.heap.size, 1, none⟩ (.int .u8 x.route)).setCell ⟨wr.heap.size, 2, none⟩ (.pointer r0)).setCell ⟨wr.heap.size, 3, none⟩ (.pointer r1)).setCell ⟨wr.heap.size, 4, none⟩ (.pointer r2)).setCell ⟨wr.heap.size, 5, none⟩ (.pointer r3)).setCell ⟨wr.heap.size, 6, none⟩ (.pointer r4)).setCell ⟨wr.heap.size, 7, none⟩ (.bool x.ma)).setCell ⟨wr.heap.size, 8, none⟩ (.string x.rej)) = W2 at *
        go_wp2
        go_roundw
        case rel => exact ⟨k + 1, _, _, by omega, by go_num, HF.out.next HX.out HL.out HG.out⟩
        case measure => simp [intOf]; omega
    · have i1 : ¬ (k : Int) < ts.length := by omega
      have hkk : k = ts.length := by omega
      subst hkk
      clear hF
      go_wp2
      go_ret
      exact ⟨rfl, _, _, HF.out⟩
end Go.Proofs.Qxb6609239a.R
