import Derived.Test.Qxb6609239aZz
namespace Go.Proofs.Qxb6609239a.R
open Go.RowKit
set_option linter.unusedVariables false
attribute [local go_sem ↓] Go.wp_at_zero Go.wp_at_succ
attribute [local go_sem] eq49 eq97
theorem eql43 (p : Option (Nat × Nat)) (w : World) : (binOp .eql 43 (ptr p) (.pointer none)).run Try.prog w = .ok (.bool (!p.isSome)) w := by
  cases p <;> kernel_rfl
theorem egd43 (i : Nat) (p : Option (Nat × Nat)) (w : World) : (eqGuard .eql 43 (.tmp i) (.const (.pointer none)) (ptr p) (.pointer none)).run Try.prog w = .ok () w := by
  cases p <;> kernel_rfl
theorem eql44 (p : Option (Nat × Nat)) (w : World) : (binOp .eql 44 (ptr p) (.pointer none)).run Try.prog w = .ok (.bool (!p.isSome)) w := by
  cases p <;> kernel_rfl
theorem egd44 (i : Nat) (p : Option (Nat × Nat)) (w : World) : (eqGuard .eql 44 (.tmp i) (.const (.pointer none)) (ptr p) (.pointer none)).run Try.prog w = .ok () w := by
  cases p <;> kernel_rfl
theorem eql45 (p : Option (Nat × Nat)) (w : World) : (binOp .eql 45 (ptr p) (.pointer none)).run Try.prog w = .ok (.bool (!p.isSome)) w := by
  cases p <;> kernel_rfl
theorem egd45 (i : Nat) (p : Option (Nat × Nat)) (w : World) : (eqGuard .eql 45 (.tmp i) (.const (.pointer none)) (ptr p) (.pointer none)).run Try.prog w = .ok () w := by
  cases p <;> kernel_rfl
theorem eql53 (p : Option (Nat × Nat)) (w : World) : (binOp .eql 53 (ptr p) (.pointer none)).run Try.prog w = .ok (.bool (!p.isSome)) w := by
  cases p <;> kernel_rfl
theorem egd53 (i : Nat) (p : Option (Nat × Nat)) (w : World) : (eqGuard .eql 53 (.tmp i) (.const (.pointer none)) (ptr p) (.pointer none)).run Try.prog w = .ok () w := by
  cases p <;> kernel_rfl
theorem eql54 (p : Option (Nat × Nat)) (w : World) : (binOp .eql 54 (ptr p) (.pointer none)).run Try.prog w = .ok (.bool (!p.isSome)) w := by
  cases p <;> kernel_rfl
theorem egd54 (i : Nat) (p : Option (Nat × Nat)) (w : World) : (eqGuard .eql 54 (.tmp i) (.const (.pointer none)) (ptr p) (.pointer none)).run Try.prog w = .ok () w := by
  cases p <;> kernel_rfl
theorem eql55 (p : Option (Nat × Nat)) (w : World) : (binOp .eql 55 (ptr p) (.pointer none)).run Try.prog w = .ok (.bool (!p.isSome)) w := by
  cases p <;> kernel_rfl
theorem egd55 (i : Nat) (p : Option (Nat × Nat)) (w : World) : (eqGuard .eql 55 (.tmp i) (.const (.pointer none)) (ptr p) (.pointer none)).run Try.prog w = .ok () w := by
  cases p <;> kernel_rfl
theorem eql56 (p : Option (Nat × Nat)) (w : World) : (binOp .eql 56 (ptr p) (.pointer none)).run Try.prog w = .ok (.bool (!p.isSome)) w := by
  cases p <;> kernel_rfl
theorem egd56 (i : Nat) (p : Option (Nat × Nat)) (w : World) : (eqGuard .eql 56 (.tmp i) (.const (.pointer none)) (ptr p) (.pointer none)).run Try.prog w = .ok () w := by
  cases p <;> kernel_rfl
theorem eql57 (p : Option (Nat × Nat)) (w : World) : (binOp .eql 57 (ptr p) (.pointer none)).run Try.prog w = .ok (.bool (!p.isSome)) w := by
  cases p <;> kernel_rfl
theorem egd57 (i : Nat) (p : Option (Nat × Nat)) (w : World) : (eqGuard .eql 57 (.tmp i) (.const (.pointer none)) (ptr p) (.pointer none)).run Try.prog w = .ok () w := by
  cases p <;> kernel_rfl

set_option maxRecDepth 100000 in
set_option maxHeartbeats 6400000 in
theorem keeps20a (g : Nat) (t t' : TR) (w : World) (hg : ∀ f v, (rq t')[f]? = some v → w.cell? ⟨g, f, none⟩ = some v) (ht : TOK w t) (ht' : TOK w t')
    (hpm : t'.pm.isSome = t.pm.isSome) (hm : t'.m = t.m) (hpd : t'.pd.isSome = t.pd.isSome) (hd : t'.dn = t.dn) (hpp : t'.pp.isSome = t.pp.isSome) (hp : t'.p = t.p) (hpa : t'.pa.isSome = t.pa.isSome) (ha : t'.ac = t.ac) (hma : t'.ma = t.ma) :
    Calls Try.prog 20 #[.pointer (some ⟨g, 0, none⟩), .agg t.cells, .bool true, .bool false] w fun e w' => e = .returned (.bool true) ∧ Old w w' := by
  have o0 := (Old.refl w).alloc (.cells t.cells 47)
  have HO := hide o0
  have HG : Hid (∀ f v, (rq t')[f]? = some v → (w.alloc (.cells t.cells 47)).cell? ⟨g, f, none⟩ = some v) := hide (fun f v hv => o0.cell (hg f v hv))
  have HB := hide (alloc_row (w := w) (cs := t.cells) (t := 47))
  have HT := hide (ht.old o0)
  have HT' := hide (ht'.old o0)
  have HQpm := hide hpm
  have HQpp := hide hpp
  have HQpa := hide hpa
  have HQpd := hide hpd
  have HA0 := hide (Old.refl (w.alloc (.cells t.cells 47)))
  clear o0 hg ht ht' hpm hpp hpa hpd
  go_enter Try.func20, Try.ntmps20
  go_upto_region 1 with fail
  generalize hw0 : w.alloc (.cells t.cells 47) = w0 at *
  clear hw0
  go_upto_region 1 with fail
  have x0 : w0.cell? ⟨g, 0, none⟩ = some (ptr t'.pm) := HA0.out.cell (HG.out 0 _ rfl)
  have y0 : w0.cell? ⟨w.heap.size, 2, none⟩ = some (ptr t.pm) := HA0.out.cell (HB.out 2 _ rfl)
  obtain ⟨s0, hs⟩ : ∃ s, (!t.pm.isSome) = s := ⟨_, rfl⟩
  have e1 : ∀ w : World, (binOp .eql 53 (ptr t'.pm) (.pointer none)).run Try.prog w = .ok (.bool s0) w := fun w => by rw [← hs, ← HQpm.out]; exact eql53 _ w
  have e2 : ∀ w : World, (binOp .eql 43 (ptr t.pm) (.pointer none)).run Try.prog w = .ok (.bool s0) w := fun w => by rw [← hs]; exact eql43 _ w
  have e3 := egd53
  have e4 := egd43
  go_quiet (fail)
  clear hs x0 y0 e1 e2 e3 e4
  go_upto_region 3 with fail
  go_cut [35] (fun c wx => c = .bool false ∧ Hid (Old w0 wx))
  case first =>
    have x0 : w0.cell? ⟨g, 0, none⟩ = some (ptr t'.pm) := HA0.out.cell (HG.out 0 _ rfl)
    have y0 : w0.cell? ⟨w.heap.size, 2, none⟩ = some (ptr t.pm) := HA0.out.cell (HB.out 2 _ rfl)
    cases hq : t.pm with
    | none =>
      have hq' : t'.pm = none := by have := HQpm.out; rw [hq] at this; simpa using this
      rw [hq'] at x0
      rw [hq] at y0
      unfold ptr at x0 y0
      clear hq hq'
      go_quiet (fail)
      go_wp2
      go_meet
      exact ⟨rfl, hide (by first | exact HA0.out.drewN _ | exact (HA0.out.drewN _).drewN _)⟩
    | some q =>
      obtain ⟨qb, qo⟩ := q
      obtain ⟨⟨qb', qo'⟩, hq'⟩ : ∃ q', t'.pm = some q' := Option.isSome_iff_exists.1 (by rw [HQpm.out, hq]; rfl)
      have z1 := HA0.out.cell (HT'.out.m qb' qo' hq')
      have z2 := HA0.out.cell (HT.out.m qb qo hq)
      rw [hm] at z1
      rw [hq'] at x0
      rw [hq] at y0
      unfold ptr at x0 y0
      clear hq hq'
      have ne : ((t.m : Int) != t.m) = false := by simp
      go_quiet (fail)
      go_wp2
      go_meet
      exact ⟨rfl, hide (by first | exact HA0.out.drewN _ | exact (HA0.out.drewN _).drewN _)⟩
  case rest =>
  obtain ⟨rfl, HA1⟩ := hcut
  rename World => w1
  go_upto_region 11 with fail
  have x2 : w1.cell? ⟨g, 2, none⟩ = some (ptr t'.pd) := HA1.out.cell (HG.out 2 _ rfl)
  have y2 : w1.cell? ⟨w.heap.size, 4, none⟩ = some (ptr t.pd) := HA1.out.cell (HB.out 4 _ rfl)
  obtain ⟨s1, hs⟩ : ∃ s, (!t.pd.isSome) = s := ⟨_, rfl⟩
  have e1 : ∀ w : World, (binOp .eql 55 (ptr t'.pd) (.pointer none)).run Try.prog w = .ok (.bool s1) w := fun w => by rw [← hs, ← HQpd.out]; exact eql55 _ w
  have e2 : ∀ w : World, (binOp .eql 45 (ptr t.pd) (.pointer none)).run Try.prog w = .ok (.bool s1) w := fun w => by rw [← hs]; exact eql45 _ w
  have e3 := egd55
  have e4 := egd45
  go_quiet (fail)
  clear hs x2 y2 e1 e2 e3 e4
  go_upto_region 13 with fail
  go_cut [94] (fun c wx => c = .bool false ∧ Hid (Old w0 wx))
  case first =>
    have x2 : w1.cell? ⟨g, 2, none⟩ = some (ptr t'.pd) := HA1.out.cell (HG.out 2 _ rfl)
    have y2 : w1.cell? ⟨w.heap.size, 4, none⟩ = some (ptr t.pd) := HA1.out.cell (HB.out 4 _ rfl)
    cases hq : t.pd with
    | none =>
      have hq' : t'.pd = none := by have := HQpd.out; rw [hq] at this; simpa using this
      rw [hq'] at x2
      rw [hq] at y2
      unfold ptr at x2 y2
      clear hq hq'
      go_quiet (fail)
      go_wp2
      go_meet
      exact ⟨rfl, hide (by first | exact HA1.out.drewN _ | exact (HA1.out.drewN _).drewN _)⟩
    | some q =>
      obtain ⟨qb, qo⟩ := q
      obtain ⟨⟨qb', qo'⟩, hq'⟩ : ∃ q', t'.pd = some q' := Option.isSome_iff_exists.1 (by rw [HQpd.out, hq]; rfl)
      have z1 := HA1.out.cell (HT'.out.d qb' qo' hq')
      have z2 := HA1.out.cell (HT.out.d qb qo hq)
      rw [hd] at z1
      rw [hq'] at x2
      rw [hq] at y2
      unfold ptr at x2 y2
      clear hq hq'
      have ne : (t.dn.toList != t.dn.toList) = false := by simp
      go_quiet (fail)
      go_wp2
      go_meet
      exact ⟨rfl, hide (by first | exact HA1.out.drewN _ | exact (HA1.out.drewN _).drewN _)⟩
  case rest =>
  obtain ⟨rfl, HA2⟩ := hcut
  rename World => w2
  go_upto_region 15 with fail
  have x3 : w2.cell? ⟨g, 3, none⟩ = some (ptr t'.pp) := HA2.out.cell (HG.out 3 _ rfl)
  have y3 : w2.cell? ⟨w.heap.size, 5, none⟩ = some (ptr t.pp) := HA2.out.cell (HB.out 5 _ rfl)
  obtain ⟨s2, hs⟩ : ∃ s, (!t.pp.isSome) = s := ⟨_, rfl⟩
  have e1 : ∀ w : World, (binOp .eql 56 (ptr t'.pp) (.pointer none)).run Try.prog w = .ok (.bool s2) w := fun w => by rw [← hs, ← HQpp.out]; exact eql56 _ w
  have e2 : ∀ w : World, (binOp .eql 43 (ptr t.pp) (.pointer none)).run Try.prog w = .ok (.bool s2) w := fun w => by rw [← hs]; exact eql43 _ w
  have e3 := egd56
  have e4 := egd43
  go_quiet (fail)
  clear hs x3 y3 e1 e2 e3 e4
  go_upto_region 17 with fail
  go_cut [121] (fun c wx => c = .bool false ∧ Hid (Old w0 wx))
  case first =>
    have x3 : w2.cell? ⟨g, 3, none⟩ = some (ptr t'.pp) := HA2.out.cell (HG.out 3 _ rfl)
    have y3 : w2.cell? ⟨w.heap.size, 5, none⟩ = some (ptr t.pp) := HA2.out.cell (HB.out 5 _ rfl)
    cases hq : t.pp with
    | none =>
      have hq' : t'.pp = none := by have := HQpp.out; rw [hq] at this; simpa using this
      rw [hq'] at x3
      rw [hq] at y3
      unfold ptr at x3 y3
      clear hq hq'
      go_quiet (fail)
      go_wp2
      go_meet
      exact ⟨rfl, hide (by first | exact HA2.out.drewN _ | exact (HA2.out.drewN _).drewN _)⟩
    | some q =>
      obtain ⟨qb, qo⟩ := q
      obtain ⟨⟨qb', qo'⟩, hq'⟩ : ∃ q', t'.pp = some q' := Option.isSome_iff_exists.1 (by rw [HQpp.out, hq]; rfl)
      have z1 := HA2.out.cell (HT'.out.p qb' qo' hq')
      have z2 := HA2.out.cell (HT.out.p qb qo hq)
      rw [hp] at z1
      rw [hq'] at x3
      rw [hq] at y3
      unfold ptr at x3 y3
      clear hq hq'
      have ne : ((t.p : Int) != t.p) = false := by simp
      go_quiet (fail)
      go_wp2
      go_meet
      exact ⟨rfl, hide (by first | exact HA2.out.drewN _ | exact (HA2.out.drewN _).drewN _)⟩
  case rest =>
  obtain ⟨rfl, HA3⟩ := hcut
  rename World => w3
  go_upto_region 19 with fail
  have x4 : w3.cell? ⟨g, 4, none⟩ = some (ptr t'.pa) := HA3.out.cell (HG.out 4 _ rfl)
  have y4 : w3.cell? ⟨w.heap.size, 6, none⟩ = some (ptr t.pa) := HA3.out.cell (HB.out 6 _ rfl)
  obtain ⟨s3, hs⟩ : ∃ s, (!t.pa.isSome) = s := ⟨_, rfl⟩
  have e1 : ∀ w : World, (binOp .eql 57 (ptr t'.pa) (.pointer none)).run Try.prog w = .ok (.bool s3) w := fun w => by rw [← hs, ← HQpa.out]; exact eql57 _ w
  have e2 : ∀ w : World, (binOp .eql 43 (ptr t.pa) (.pointer none)).run Try.prog w = .ok (.bool s3) w := fun w => by rw [← hs]; exact eql43 _ w
  have e3 := egd57
  have e4 := egd43
  go_quiet (fail)
  clear hs x4 y4 e1 e2 e3 e4
  go_upto_region 21 with fail
  go_cut [148] (fun c wx => c = .bool false ∧ Hid (Old w0 wx))
  case first =>
    have x4 : w3.cell? ⟨g, 4, none⟩ = some (ptr t'.pa) := HA3.out.cell (HG.out 4 _ rfl)
    have y4 : w3.cell? ⟨w.heap.size, 6, none⟩ = some (ptr t.pa) := HA3.out.cell (HB.out 6 _ rfl)
    cases hq : t.pa with
    | none =>
      have hq' : t'.pa = none := by have := HQpa.out; rw [hq] at this; simpa using this
      rw [hq'] at x4
      rw [hq] at y4
      unfold ptr at x4 y4
      clear hq hq'
      go_quiet (fail)
      go_wp2
      go_meet
      exact ⟨rfl, hide (by first | exact HA3.out.drewN _ | exact (HA3.out.drewN _).drewN _)⟩
    | some q =>
      obtain ⟨qb, qo⟩ := q
      obtain ⟨⟨qb', qo'⟩, hq'⟩ : ∃ q', t'.pa = some q' := Option.isSome_iff_exists.1 (by rw [HQpa.out, hq]; rfl)
      have z1 := HA3.out.cell (HT'.out.ac qb' qo' hq')
      have z2 := HA3.out.cell (HT.out.ac qb qo hq)
      rw [ha] at z1
      rw [hq'] at x4
      rw [hq] at y4
      unfold ptr at x4 y4
      clear hq hq'
      have ne : ((t.ac : Int) != t.ac) = false := by simp
      go_quiet (fail)
      go_wp2
      go_meet
      exact ⟨rfl, hide (by first | exact HA3.out.drewN _ | exact (HA3.out.drewN _).drewN _)⟩
  case rest =>
  obtain ⟨rfl, HA4⟩ := hcut
  rename World => w4
  go_upto_region 23 with fail
  have x5 : w4.cell? ⟨g, 5, none⟩ = some (.bool t'.ma) := HA4.out.cell (HG.out 5 _ rfl)
  have y5 : w4.cell? ⟨w.heap.size, 7, none⟩ = some (.bool t.ma) := HA4.out.cell (HB.out 7 _ rfl)
  rw [hma] at x5
  go_quiet (fail)
  go_wp2
  go_ret
  exact ⟨ret_bool (by simp), HO.out.trans (HA4.out.drewN _)⟩

set_option maxRecDepth 100000 in
set_option maxHeartbeats 6400000 in
theorem keeps20b (g : Nat) (t t' : TR) (w : World) (hg : ∀ f v, (rq t')[f]? = some v → w.cell? ⟨g, f, none⟩ = some v) (ht : TOK w t) (ht' : TOK w t')
    (hpm : t'.pm.isSome = t.pm.isSome) (hm : t'.m = t.m) (hps : t'.ps.isSome = t.ps.isSome) (hn : t'.n = t.n) (hpp : t'.pp.isSome = t.pp.isSome) (hp : t'.p = t.p) (hpa : t'.pa.isSome = t.pa.isSome) (ha : t'.ac = t.ac) (hma : t'.ma = t.ma) :
    Calls Try.prog 20 #[.pointer (some ⟨g, 0, none⟩), .agg t.cells, .bool false, .bool true] w fun e w' => e = .returned (.bool true) ∧ Old w w' := by
  have o0 := (Old.refl w).alloc (.cells t.cells 47)
  have HO := hide o0
  have HG : Hid (∀ f v, (rq t')[f]? = some v → (w.alloc (.cells t.cells 47)).cell? ⟨g, f, none⟩ = some v) := hide (fun f v hv => o0.cell (hg f v hv))
  have HB := hide (alloc_row (w := w) (cs := t.cells) (t := 47))
  have HT := hide (ht.old o0)
  have HT' := hide (ht'.old o0)
  have HQpm := hide hpm
  have HQpp := hide hpp
  have HQpa := hide hpa
  have HQps := hide hps
  have HA0 := hide (Old.refl (w.alloc (.cells t.cells 47)))
  clear o0 hg ht ht' hpm hpp hpa hps
  go_enter Try.func20, Try.ntmps20
  go_upto_region 1 with fail
  generalize hw0 : w.alloc (.cells t.cells 47) = w0 at *
  clear hw0
  go_upto_region 1 with fail
  have x0 : w0.cell? ⟨g, 0, none⟩ = some (ptr t'.pm) := HA0.out.cell (HG.out 0 _ rfl)
  have y0 : w0.cell? ⟨w.heap.size, 2, none⟩ = some (ptr t.pm) := HA0.out.cell (HB.out 2 _ rfl)
  obtain ⟨s0, hs⟩ : ∃ s, (!t.pm.isSome) = s := ⟨_, rfl⟩
  have e1 : ∀ w : World, (binOp .eql 53 (ptr t'.pm) (.pointer none)).run Try.prog w = .ok (.bool s0) w := fun w => by rw [← hs, ← HQpm.out]; exact eql53 _ w
  have e2 : ∀ w : World, (binOp .eql 43 (ptr t.pm) (.pointer none)).run Try.prog w = .ok (.bool s0) w := fun w => by rw [← hs]; exact eql43 _ w
  have e3 := egd53
  have e4 := egd43
  go_quiet (fail)
  clear hs x0 y0 e1 e2 e3 e4
  go_upto_region 3 with fail
  go_cut [35] (fun c wx => c = .bool false ∧ Hid (Old w0 wx))
  case first =>
    have x0 : w0.cell? ⟨g, 0, none⟩ = some (ptr t'.pm) := HA0.out.cell (HG.out 0 _ rfl)
    have y0 : w0.cell? ⟨w.heap.size, 2, none⟩ = some (ptr t.pm) := HA0.out.cell (HB.out 2 _ rfl)
    cases hq : t.pm with
    | none =>
      have hq' : t'.pm = none := by have := HQpm.out; rw [hq] at this; simpa using this
      rw [hq'] at x0
      rw [hq] at y0
      unfold ptr at x0 y0
      clear hq hq'
      go_quiet (fail)
      go_wp2
      go_meet
      exact ⟨rfl, hide (by first | exact HA0.out.drewN _ | exact (HA0.out.drewN _).drewN _)⟩
    | some q =>
      obtain ⟨qb, qo⟩ := q
      obtain ⟨⟨qb', qo'⟩, hq'⟩ : ∃ q', t'.pm = some q' := Option.isSome_iff_exists.1 (by rw [HQpm.out, hq]; rfl)
      have z1 := HA0.out.cell (HT'.out.m qb' qo' hq')
      have z2 := HA0.out.cell (HT.out.m qb qo hq)
      rw [hm] at z1
      rw [hq'] at x0
      rw [hq] at y0
      unfold ptr at x0 y0
      clear hq hq'
      have ne : ((t.m : Int) != t.m) = false := by simp
      go_quiet (fail)
      go_wp2
      go_meet
      exact ⟨rfl, hide (by first | exact HA0.out.drewN _ | exact (HA0.out.drewN _).drewN _)⟩
  case rest =>
  obtain ⟨rfl, HA1⟩ := hcut
  rename World => w1
  go_upto_region 6 with fail
  have x1 : w1.cell? ⟨g, 1, none⟩ = some (ptr t'.ps) := HA1.out.cell (HG.out 1 _ rfl)
  have y1 : w1.cell? ⟨w.heap.size, 3, none⟩ = some (ptr t.ps) := HA1.out.cell (HB.out 3 _ rfl)
  obtain ⟨s1, hs⟩ : ∃ s, (!t.ps.isSome) = s := ⟨_, rfl⟩
  have e1 : ∀ w : World, (binOp .eql 54 (ptr t'.ps) (.pointer none)).run Try.prog w = .ok (.bool s1) w := fun w => by rw [← hs, ← HQps.out]; exact eql54 _ w
  have e2 : ∀ w : World, (binOp .eql 44 (ptr t.ps) (.pointer none)).run Try.prog w = .ok (.bool s1) w := fun w => by rw [← hs]; exact eql44 _ w
  have e3 := egd54
  have e4 := egd44
  go_quiet (fail)
  clear hs x1 y1 e1 e2 e3 e4
  go_upto_region 8 with fail
  generalize hww : w1.drewN _ = wq
  have HAq : Hid (Old w0 wq) := hide (by rw [← hww]; exact HA1.out.drewN _)
  clear hww
  go_cut [65] (fun c wx => c = .bool false ∧ Hid (Old w0 wx))
  case first =>
    have x1 : wq.cell? ⟨g, 1, none⟩ = some (ptr t'.ps) := HAq.out.cell (HG.out 1 _ rfl)
    have y1 : wq.cell? ⟨w.heap.size, 3, none⟩ = some (ptr t.ps) := HAq.out.cell (HB.out 3 _ rfl)
    cases hq : t.ps with
    | none =>
      have hq' : t'.ps = none := by have := HQps.out; rw [hq] at this; simpa using this
      rw [hq'] at x1
      rw [hq] at y1
      unfold ptr at x1 y1
      clear hq hq'
      go_quiet (fail)
      go_wp2
      go_meet
      exact ⟨rfl, hide (HAq.out.drewN _)⟩
    | some q =>
      obtain ⟨qb, qo⟩ := q
      obtain ⟨⟨qb', qo'⟩, hq'⟩ : ∃ q', t'.ps = some q' := Option.isSome_iff_exists.1 (by rw [HQps.out, hq]; rfl)
      have z1 := fun f v hv => HAq.out.cell (HT'.out.n qb' qo' hq' f v hv)
      have z2 := fun f v hv => HAq.out.cell (HT.out.n qb qo hq f v hv)
      rw [hn] at z1
      rw [hq'] at x1
      rw [hq] at y1
      unfold ptr at x1 y1
      clear hq hq'
      have HK : Hid (∀ W, Old wq W → (W.cell? ⟨g, 1, none⟩ = some (.pointer (some ⟨qb', qo', none⟩)) ∧ W.cell? ⟨w.heap.size, 3, none⟩ = some (.pointer (some ⟨qb, qo, none⟩)) ∧ W.cell? ⟨qb', qo', none⟩ = some (.int .u8 t.n.a) ∧ W.cell? ⟨qb', qo' + 1, none⟩ = some (.int .u8 t.n.b) ∧ W.cell? ⟨qb', qo' + 2, none⟩ = some (.int .u8 t.n.c) ∧ W.cell? ⟨qb', qo' + 3, none⟩ = some (.int .u8 t.n.d) ∧ W.cell? ⟨qb', qo' + 4, none⟩ = some (.bool t.n.h) ∧ W.cell? ⟨qb, qo, none⟩ = some (.int .u8 t.n.a) ∧ W.cell? ⟨qb, qo + 1, none⟩ = some (.int .u8 t.n.b) ∧ W.cell? ⟨qb, qo + 2, none⟩ = some (.int .u8 t.n.c) ∧ W.cell? ⟨qb, qo + 3, none⟩ = some (.int .u8 t.n.d) ∧ W.cell? ⟨qb, qo + 4, none⟩ = some (.bool t.n.h))) := hide fun W ho => ⟨ho.cell x1, ho.cell y1, ho.cell (z1 0 _ rfl), ho.cell (z1 1 _ rfl), ho.cell (z1 2 _ rfl), ho.cell (z1 3 _ rfl), ho.cell (z1 4 _ rfl), ho.cell (z2 0 _ rfl), ho.cell (z2 1 _ rfl), ho.cell (z2 2 _ rfl), ho.cell (z2 3 _ rfl), ho.cell (z2 4 _ rfl)⟩
      clear x1 y1 z1 z2
      go_region_held3 (fun W => W.cell? ⟨g, 1, none⟩ = some (.pointer (some ⟨qb', qo', none⟩)) ∧ W.cell? ⟨w.heap.size, 3, none⟩ = some (.pointer (some ⟨qb, qo, none⟩)) ∧ W.cell? ⟨qb', qo', none⟩ = some (.int .u8 t.n.a) ∧ W.cell? ⟨qb', qo' + 1, none⟩ = some (.int .u8 t.n.b) ∧ W.cell? ⟨qb', qo' + 2, none⟩ = some (.int .u8 t.n.c) ∧ W.cell? ⟨qb', qo' + 3, none⟩ = some (.int .u8 t.n.d) ∧ W.cell? ⟨qb', qo' + 4, none⟩ = some (.bool t.n.h) ∧ W.cell? ⟨qb, qo, none⟩ = some (.int .u8 t.n.a) ∧ W.cell? ⟨qb, qo + 1, none⟩ = some (.int .u8 t.n.b) ∧ W.cell? ⟨qb, qo + 2, none⟩ = some (.int .u8 t.n.c) ∧ W.cell? ⟨qb, qo + 3, none⟩ = some (.int .u8 t.n.d) ∧ W.cell? ⟨qb, qo + 4, none⟩ = some (.bool t.n.h))
        (first | with_reducible exact HK.out _ (Old.refl wq).drew | with_reducible exact HK.out _ HOO.out)
        (first | (go_at_call 19; refine (fields19 t.n _).mono ?_; rintro e w19 ⟨rfl, ho'⟩; have HOO := hide ho'.of_drew; clear ho'))
      all_goals
        go_wp2
        go_meet
        exact ⟨rfl, hide (HAq.out.trans HOO.out)⟩
  case rest =>
  obtain ⟨rfl, HA2⟩ := hcut
  rename World => w2
  go_upto_region 15 with fail
  have x3 : w2.cell? ⟨g, 3, none⟩ = some (ptr t'.pp) := HA2.out.cell (HG.out 3 _ rfl)
  have y3 : w2.cell? ⟨w.heap.size, 5, none⟩ = some (ptr t.pp) := HA2.out.cell (HB.out 5 _ rfl)
  obtain ⟨s2, hs⟩ : ∃ s, (!t.pp.isSome) = s := ⟨_, rfl⟩
  have e1 : ∀ w : World, (binOp .eql 56 (ptr t'.pp) (.pointer none)).run Try.prog w = .ok (.bool s2) w := fun w => by rw [← hs, ← HQpp.out]; exact eql56 _ w
  have e2 : ∀ w : World, (binOp .eql 43 (ptr t.pp) (.pointer none)).run Try.prog w = .ok (.bool s2) w := fun w => by rw [← hs]; exact eql43 _ w
  have e3 := egd56
  have e4 := egd43
  go_quiet (fail)
  clear hs x3 y3 e1 e2 e3 e4
  go_upto_region 17 with fail
  go_cut [121] (fun c wx => c = .bool false ∧ Hid (Old w0 wx))
  case first =>
    have x3 : w2.cell? ⟨g, 3, none⟩ = some (ptr t'.pp) := HA2.out.cell (HG.out 3 _ rfl)
    have y3 : w2.cell? ⟨w.heap.size, 5, none⟩ = some (ptr t.pp) := HA2.out.cell (HB.out 5 _ rfl)
    cases hq : t.pp with
    | none =>
      have hq' : t'.pp = none := by have := HQpp.out; rw [hq] at this; simpa using this
      rw [hq'] at x3
      rw [hq] at y3
      unfold ptr at x3 y3
      clear hq hq'
      go_quiet (fail)
      go_wp2
      go_meet
      exact ⟨rfl, hide (by first | exact HA2.out.drewN _ | exact (HA2.out.drewN _).drewN _)⟩
    | some q =>
      obtain ⟨qb, qo⟩ := q
      obtain ⟨⟨qb', qo'⟩, hq'⟩ : ∃ q', t'.pp = some q' := Option.isSome_iff_exists.1 (by rw [HQpp.out, hq]; rfl)
      have z1 := HA2.out.cell (HT'.out.p qb' qo' hq')
      have z2 := HA2.out.cell (HT.out.p qb qo hq)
      rw [hp] at z1
      rw [hq'] at x3
      rw [hq] at y3
      unfold ptr at x3 y3
      clear hq hq'
      have ne : ((t.p : Int) != t.p) = false := by simp
      go_quiet (fail)
      go_wp2
      go_meet
      exact ⟨rfl, hide (by first | exact HA2.out.drewN _ | exact (HA2.out.drewN _).drewN _)⟩
  case rest =>
  obtain ⟨rfl, HA3⟩ := hcut
  rename World => w3
  go_upto_region 19 with fail
  have x4 : w3.cell? ⟨g, 4, none⟩ = some (ptr t'.pa) := HA3.out.cell (HG.out 4 _ rfl)
  have y4 : w3.cell? ⟨w.heap.size, 6, none⟩ = some (ptr t.pa) := HA3.out.cell (HB.out 6 _ rfl)
  obtain ⟨s3, hs⟩ : ∃ s, (!t.pa.isSome) = s := ⟨_, rfl⟩
  have e1 : ∀ w : World, (binOp .eql 57 (ptr t'.pa) (.pointer none)).run Try.prog w = .ok (.bool s3) w := fun w => by rw [← hs, ← HQpa.out]; exact eql57 _ w
  have e2 : ∀ w : World, (binOp .eql 43 (ptr t.pa) (.pointer none)).run Try.prog w = .ok (.bool s3) w := fun w => by rw [← hs]; exact eql43 _ w
  have e3 := egd57
  have e4 := egd43
  go_quiet (fail)
  clear hs x4 y4 e1 e2 e3 e4
  go_upto_region 21 with fail
  go_cut [148] (fun c wx => c = .bool false ∧ Hid (Old w0 wx))
  case first =>
    have x4 : w3.cell? ⟨g, 4, none⟩ = some (ptr t'.pa) := HA3.out.cell (HG.out 4 _ rfl)
    have y4 : w3.cell? ⟨w.heap.size, 6, none⟩ = some (ptr t.pa) := HA3.out.cell (HB.out 6 _ rfl)
    cases hq : t.pa with
    | none =>
      have hq' : t'.pa = none := by have := HQpa.out; rw [hq] at this; simpa using this
      rw [hq'] at x4
      rw [hq] at y4
      unfold ptr at x4 y4
      clear hq hq'
      go_quiet (fail)
      go_wp2
      go_meet
      exact ⟨rfl, hide (by first | exact HA3.out.drewN _ | exact (HA3.out.drewN _).drewN _)⟩
    | some q =>
      obtain ⟨qb, qo⟩ := q
      obtain ⟨⟨qb', qo'⟩, hq'⟩ : ∃ q', t'.pa = some q' := Option.isSome_iff_exists.1 (by rw [HQpa.out, hq]; rfl)
      have z1 := HA3.out.cell (HT'.out.ac qb' qo' hq')
      have z2 := HA3.out.cell (HT.out.ac qb qo hq)
      rw [ha] at z1
      rw [hq'] at x4
      rw [hq] at y4
      unfold ptr at x4 y4
      clear hq hq'
      have ne : ((t.ac : Int) != t.ac) = false := by simp
      go_quiet (fail)
      go_wp2
      go_meet
      exact ⟨rfl, hide (by first | exact HA3.out.drewN _ | exact (HA3.out.drewN _).drewN _)⟩
  case rest =>
  obtain ⟨rfl, HA4⟩ := hcut
  rename World => w4
  go_upto_region 23 with fail
  have x5 : w4.cell? ⟨g, 5, none⟩ = some (.bool t'.ma) := HA4.out.cell (HG.out 5 _ rfl)
  have y5 : w4.cell? ⟨w.heap.size, 7, none⟩ = some (.bool t.ma) := HA4.out.cell (HB.out 7 _ rfl)
  rw [hma] at x5
  go_quiet (fail)
  go_wp2
  go_ret
  exact ⟨ret_bool (by simp), HO.out.trans (HA4.out.drewN _)⟩
end Go.Proofs.Qxb6609239a.R
