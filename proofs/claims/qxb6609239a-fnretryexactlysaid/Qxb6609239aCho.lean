import Derived.Test.Qxb6609239aAskf
namespace Go.Proofs.Qxb6609239a.R
open Go.RowKit
set_option linter.unusedVariables false
attribute [local go_sem ↓] Go.wp_at_zero Go.wp_at_succ
/-- the block of an SNSSAI -/
theorem alloc_row {w : World} {cs : Array Value} {t : TypeId} : ∀ f v, cs[f]? = some v → (w.alloc (.cells cs t)).cell? ⟨w.heap.size, f, none⟩ = some v := fun f v hv =>
  (cell_of_row _ _ f _ _ _ (heap_alloc_new w (.cells cs t))).trans hv
set_option maxRecDepth 100000 in
set_option maxHeartbeats 3200000 in
theorem allowed38 (xs : List NS) (n : NS) (bs : Nat) (ad : Option Addr) (b off cap : Nat) (w : World) (h : Row w 5 NS.cells xs ad b off) (hl : xs.length ≤ 1048576) (hb : w.cell? ⟨bs, 0, none⟩ = some (.slice ad xs.length cap)) (v : Bool) (hv : xs.any (fun x => sameN n x) = v) :
    Calls Try.prog 38 #[.agg #[.pointer (some ⟨bs, 0, none⟩), .pointer none], .agg n.cells] w fun e w' => e = .returned (.bool v) ∧ Old w w' := by
  have o1 := (Old.refl w).alloc (.cells #[.pointer (some ⟨bs, 0, none⟩), .pointer none] 89)
  have hm := mkf
  generalize hw1 : w.alloc (.cells #[.pointer (some ⟨bs, 0, none⟩), .pointer none] 89) = w1 at o1
  have hz : w1.heap.size = w.heap.size + 1 := by rw [← hw1]; simp
  have o2 := o1.alloc (.cells n.cells 61)
  have c0 : (w1.alloc (.cells n.cells 61)).cell? ⟨w.heap.size, 0, none⟩ = some (.pointer (some ⟨bs, 0, none⟩)) := by
    refine Old.cell ((Old.refl w1).alloc _) ?_
    rw [← hw1]; exact alloc_row 0 _ rfl
  have c1 : ∀ f v, n.cells[f]? = some v → (w1.alloc (.cells n.cells 61)).cell? ⟨w.heap.size + 1, f, none⟩ = some v := by rw [← hz]; exact alloc_row
  generalize hw2 : w1.alloc (.cells n.cells 61) = w2 at o2 c0 c1
  have H2 : Hid ((w.alloc (.cells #[.pointer (some ⟨bs, 0, none⟩), .pointer none] 89)).alloc (.cells n.cells 61) = w2) := hide (by rw [hw1, hw2])
  have HC : Hid (∀ W, Old w2 W → Calls Try.prog 47 #[.slice ad xs.length cap, .func (.func 40) #[.agg n.cells] #[]] W fun e w' => e = .returned (.bool v) ∧ Old W w') := hide fun W ho => con47 (fun x => sameN n x) xs n ad b off cap W (h.old (o2.trans ho)) hl (fun x hx W' v' _ hp => same40 n x W' v' hp) v hv
  have HK : Hid (∀ W, Old w2 W → (W.cell? ⟨w.heap.size, 0, none⟩ = some (.pointer (some ⟨bs, 0, none⟩)) ∧ W.cell? ⟨bs, 0, none⟩ = some (.slice ad xs.length cap) ∧ W.cell? ⟨w.heap.size + 1, 0, none⟩ = some (.int .u8 n.a) ∧ W.cell? ⟨w.heap.size + 1, 1, none⟩ = some (.int .u8 n.b) ∧ W.cell? ⟨w.heap.size + 1, 2, none⟩ = some (.int .u8 n.c) ∧ W.cell? ⟨w.heap.size + 1, 3, none⟩ = some (.int .u8 n.d) ∧ W.cell? ⟨w.heap.size + 1, 4, none⟩ = some (.bool n.h))) := hide fun W ho => ⟨ho.cell c0, (o2.trans ho).cell hb, ho.cell (c1 0 _ rfl), ho.cell (c1 1 _ rfl), ho.cell (c1 2 _ rfl), ho.cell (c1 3 _ rfl), ho.cell (c1 4 _ rfl)⟩
  have HO2 := hide o2
  clear h hb hv hw1 hw2 o1 o2 c0 c1 hz w1
  go_enter Try.func38, Try.ntmps38
  go_upto_region 1 with fail
  rw [H2.out]
  go_region_held3 (fun W => W.cell? ⟨w.heap.size, 0, none⟩ = some (.pointer (some ⟨bs, 0, none⟩)) ∧ W.cell? ⟨bs, 0, none⟩ = some (.slice ad xs.length cap) ∧ W.cell? ⟨w.heap.size + 1, 0, none⟩ = some (.int .u8 n.a) ∧ W.cell? ⟨w.heap.size + 1, 1, none⟩ = some (.int .u8 n.b) ∧ W.cell? ⟨w.heap.size + 1, 2, none⟩ = some (.int .u8 n.c) ∧ W.cell? ⟨w.heap.size + 1, 3, none⟩ = some (.int .u8 n.d) ∧ W.cell? ⟨w.heap.size + 1, 4, none⟩ = some (.bool n.h))
    (first | with_reducible exact HK.out _ (Old.refl w2).drew | with_reducible exact HK.out _ HOO.out)
    (first | (go_at_call 47; refine (HC.out _ (Old.refl w2).drew).mono ?_; rintro e w3 ⟨rfl, ho'⟩; have HOO := hide ho'.of_drew; clear ho'))
  all_goals
    go_wp2
    go_ret
    exact ⟨rfl, HO2.out.trans HOO.out⟩

def pN (al : List NS) (aa : List (Nat × TR)) (n : NS) : Bool := al.any (fun x => sameN n x) && !(aa.any fun a => askN a.2 n)
def pD (aa : List (Nat × TR)) (d : ByteArray) : Bool := !(aa.any fun a => askD a.2 d)
set_option maxRecDepth 100000 in
set_option maxHeartbeats 3200000 in
theorem clo42 (aa : List (Nat × TR)) (d : ByteArray) (bc bt : Nat) (ad : Option Addr) (b off cap : Nat) (w : World) (h : Row w 1 acl aa ad b off) (hl : aa.length ≤ 1048576) (hk : ∀ a ∈ aa, AOK w a) (hs : ∀ a ∈ aa, a.2.dn.size ≤ 1048576) (hd : d.size ≤ 1048576)
    (hc : w.cell? ⟨bc, 0, none⟩ = some (.func (.func 33) #[] #[.pointer (some ⟨bt, 0, none⟩)])) (ht : w.cell? ⟨bt, 0, none⟩ = some (.slice ad aa.length cap)) (v : Bool) (hv : pD aa d = v) :
    Calls Try.prog 42 #[.string d, .pointer (some ⟨bc, 0, none⟩)] w fun e w' => e = .returned (.bool v) ∧ Old w w' := by
  obtain ⟨u, hu⟩ : ∃ u, aa.any (fun a => askD a.2 d) = u := ⟨_, rfl⟩
  have HV : Hid ((!u) = v) := hide (by rw [← hv, ← hu]; rfl)
  have o1 := (Old.refl w).alloc (.cells #[.string d] 64)
  have HC := hide (asked33D aa d w.heap.size bt ad b off cap _ (h.old o1) hl (fun a ha => (hk a ha).old o1) hs hd (alloc_row 0 _ rfl) (o1.cell ht) u hu)
  have hm := mkf
  have l1 := cell_lt hc
  have HO := hide o1
  clear h hk hs ht hv hu o1
  go_enter Try.func42, Try.ntmps42
  go_wp2_with (go_at_call 33; refine HC.out.mono ?_; rintro e w3 ⟨rfl, ho3⟩; have HO3 := hide ho3; clear ho3)
  go_ret
  exact ⟨ret_bool HV.out, HO.out.trans HO3.out⟩
set_option maxRecDepth 100000 in
set_option maxHeartbeats 3200000 in
theorem clo37 (al : List NS) (aa : List (Nat × TR)) (n : NS) (bs be bc bt : Nat) (lad : Option Addr) (lb loff lcap : Nat) (ad : Option Addr) (b off cap : Nat) (w : World) (hal : Row w 5 NS.cells al lad lb loff) (hll : al.length ≤ 1048576) (hbs : w.cell? ⟨bs, 0, none⟩ = some (.slice lad al.length lcap))
    (h : Row w 1 acl aa ad b off) (hl : aa.length ≤ 1048576) (hk : ∀ a ∈ aa, AOK w a) (he0 : w.cell? ⟨be, 0, none⟩ = some (.pointer (some ⟨bs, 0, none⟩))) (he1 : w.cell? ⟨be, 1, none⟩ = some (.pointer none))
    (hc : w.cell? ⟨bc, 0, none⟩ = some (.func (.func 33) #[] #[.pointer (some ⟨bt, 0, none⟩)])) (ht : w.cell? ⟨bt, 0, none⟩ = some (.slice ad aa.length cap)) (v : Bool) (hv : pN al aa n = v) :
    Calls Try.prog 37 #[.agg n.cells, .pointer (some ⟨be, 0, none⟩), .pointer (some ⟨bc, 0, none⟩)] w fun e w' => e = .returned (.bool v) ∧ Old w w' := by
  obtain ⟨u, hu⟩ : ∃ u, aa.any (fun a => askN a.2 n) = u := ⟨_, rfl⟩
  have o1 := (Old.refl w).alloc (.cells n.cells 61)
  have HC : Hid (∀ W, Old (w.alloc (.cells n.cells 61)) W → _) := hide fun W ho => asked33N aa n w.heap.size bt ad b off cap W (h.old (o1.trans ho)) hl (fun a ha => (hk a ha).old (o1.trans ho)) (fun f v hv => ho.cell (alloc_row f v hv)) ((o1.trans ho).cell ht) u hu
  have hm := mkf
  have l1 := cell_lt hc
  have l2 := cell_lt he0
  have HO := hide o1
  have Hc := hide hc
  have HV := hide hv
  have HU := hide hu
  cases ha : al.any (fun x => sameN n x)
  · have HA := hide (allowed38 al n bs lad lb loff lcap (w.alloc (.cells n.cells 61)) (hal.old o1) hll (o1.cell hbs) false ha)
    have HF : Hid (false = v) := hide (by rw [← HV.out]; unfold pN; rw [ha]; rfl)
    clear h hk ht hu o1 hal hbs hv ha
    go_enter Try.func37, Try.ntmps37
    go_wp2_with (go_at_call 38; refine HA.out.mono ?_; rintro e w3 ⟨rfl, ho3⟩; have HO3 := hide ho3; clear ho3)
    go_ret
    exact ⟨ret_bool HF.out, HO.out.trans HO3.out⟩
  · have HA := hide (allowed38 al n bs lad lb loff lcap (w.alloc (.cells n.cells 61)) (hal.old o1) hll (o1.cell hbs) true ha)
    have HF : Hid ((!u) = v) := hide (by rw [← HV.out]; unfold pN; rw [ha, HU.out]; simp)
    clear h hk ht hu o1 hal hbs hv ha
    go_enter Try.func37, Try.ntmps37
    go_wp2_with (first | (go_at_call 38; refine HA.out.mono ?_; rintro e w3 ⟨rfl, ho3⟩; have HO3 := hide ho3; have c3 := (HO.out.trans HO3.out).cell Hc.out; clear ho3) | (go_at_call 33; refine (HC.out _ HO3.out).mono ?_; rintro e w4 ⟨rfl, ho4⟩; have HO4 := hide ho4; clear ho4))
    go_ret
    exact ⟨ret_bool HF.out, (HO.out.trans HO3.out).trans HO4.out⟩
end Go.Proofs.Qxb6609239a.R
