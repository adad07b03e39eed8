import Derived.Test.Qxb6609239aAsked
import Derived.Test.Qxb6609239aMake
import Derived.BigRegion
import Derived.Deep.Cut
import Derived.Deep.DeepCutAuto
namespace Go.Proofs.Qxb6609239a.R
open Go.RowKit
set_option linter.unusedVariables false
attribute [local go_sem ↓] Go.wp_at_zero Go.wp_at_succ
attribute [local go_sem] eq49 eq97
abbrev rq (t : TR) : Array Value := #[ptr t.pm, ptr t.ps, ptr t.pd, ptr t.pp, ptr t.pa, .bool t.ma]
structure Like (t t' : TR) : Prop where
  rule : t'.rule = t.rule
  route : t'.route = t.route
  pm : t'.pm.isSome = t.pm.isSome
  ps : t'.ps.isSome = t.ps.isSome
  pd : t'.pd.isSome = t.pd.isSome
  pp : t'.pp.isSome = t.pp.isSome
  pa : t'.pa.isSome = t.pa.isSome
  m : t'.m = t.m
  n : t'.n = t.n
  dn : t'.dn = t.dn
  p : t'.p = t.p
  ac : t'.ac = t.ac
  ma : t'.ma = t.ma
  rej : t'.rej = t.rej
def Asks (w : World) (t : TR) (e : Ending) (w' : World) : Prop := ∃ t', Like t t' ∧ e = .returned (.agg (rq t')) ∧ (∀ W : World, (∀ b, w.heap.size ≤ b → b < w'.heap.size → W.heap[b]? = w'.heap[b]?) → TOK W t') ∧ Old w w'
def mkT (t : TR) (q0 q1 q2 q3 q4 : Option (Nat × Nat)) (b : Bool) : TR := { t with pm := q0, ps := q1, pd := q2, pp := q3, pa := q4, ma := b }
/-- b1Request on its way -/
structure RS (w : World) (t : TR) (q0 q1 q2 q3 q4 : Option (Nat × Nat)) (wx : World) : Prop where
  box : wx.heap[w.heap.size]? = some (.cells t.cells 47 (0, 0))
  res : wx.heap[w.heap.size + 1]? = some (.cells #[.pointer none, .pointer none, .pointer none, .pointer none, .pointer none, .bool false] 59 (0, 0))
  q : wx.heap[w.heap.size + 1 + 1]? = some (.cells #[ptr q0, ptr q1, ptr q2, ptr q3, ptr q4, .bool false] 59 (0, 0))
  big : w.heap.size + 3 ≤ wx.heap.size
  tok : ∀ W : World, (∀ b, w.heap.size + 3 ≤ b → b < wx.heap.size → W.heap[b]? = wx.heap[b]?) → TOK W (mkT t q0 q1 q2 q3 q4 t.ma)
  old : Old w wx
theorem RS.drew {w : World} {t : TR} {q0 q1 q2 q3 q4 : Option (Nat × Nat)} {wx : World} (h : RS w t q0 q1 q2 q3 q4 wx) : RS w t q0 q1 q2 q3 q4 wx.drew :=
  ⟨h.box, h.res, h.q, h.big, h.tok, h.old.drew⟩
theorem RS.put {w : World} {t : TR} {q0 q1 q2 q3 q4 : Option (Nat × Nat)} {wx : World} (h : RS w t q0 q1 q2 q3 q4 wx) (i : Nat) (o : Obj) (p0 p1 p2 p3 p4 : Option (Nat × Nat))
    (harr : (#[ptr q0, ptr q1, ptr q2, ptr q3, ptr q4, .bool false] : Array Value).setIfInBounds i (.pointer (some ⟨wx.heap.size, 0, none⟩)) = #[ptr p0, ptr p1, ptr p2, ptr p3, ptr p4, .bool false])
    (htok : ∀ W : World, TOK W (mkT t q0 q1 q2 q3 q4 t.ma) → W.heap[wx.heap.size]? = some o → TOK W (mkT t p0 p1 p2 p3 p4 t.ma)) :
    RS w t p0 p1 p2 p3 p4 ((wx.setCell ⟨w.heap.size + 1 + 1, i, none⟩ (.pointer (some ⟨wx.heap.size, 0, none⟩))).alloc o) := by
  have hb := h.big
  have other : ∀ b, b ≠ w.heap.size + 1 + 1 → (wx.setCell ⟨w.heap.size + 1 + 1, i, none⟩ (.pointer (some ⟨wx.heap.size, 0, none⟩))).heap[b]? = wx.heap[b]? := fun b hb => heap_setCell_other _ _ _ _ hb
  have keep : ∀ b, b < wx.heap.size → ((wx.setCell ⟨w.heap.size + 1 + 1, i, none⟩ (.pointer (some ⟨wx.heap.size, 0, none⟩))).alloc o).heap[b]? = (wx.setCell ⟨w.heap.size + 1 + 1, i, none⟩ (.pointer (some ⟨wx.heap.size, 0, none⟩))).heap[b]? := fun b hb => Below.heap_alloc _ _ _ (by simpa using hb)
  have hsz : ((wx.setCell ⟨w.heap.size + 1 + 1, i, none⟩ (.pointer (some ⟨wx.heap.size, 0, none⟩))).alloc o).heap.size = wx.heap.size + 1 := by simp
  refine ⟨(keep _ (by omega)).trans ((other _ (by omega)).trans h.box), (keep _ (by omega)).trans ((other _ (by omega)).trans h.res), (keep _ (by omega)).trans ((heap_setCell_same _ _ _ _ _ _ h.q).trans (by rw [harr])), by omega, fun W hW => ?_, (h.old.set (p := ⟨w.heap.size + 1 + 1, i, none⟩) (by show w.heap.size ≤ w.heap.size + 1 + 1; omega) _).alloc o⟩
  refine htok W (h.tok W fun b h1 h2 => ?_) ?_
  · exact (hW b h1 (by omega)).trans ((keep b h2).trans (other b (by omega)))
  · refine (hW _ hb (by omega)).trans ?_
    have := heap_alloc_new (wx.setCell ⟨w.heap.size + 1 + 1, i, none⟩ (.pointer (some ⟨wx.heap.size, 0, none⟩))) o
    simpa using this
theorem neq43 (p : Option (Nat × Nat)) (w : World) : (binOp .neq 43 (ptr p) (.pointer none)).run Try.prog w = .ok (.bool p.isSome) w := by
  cases p <;> kernel_rfl
theorem grd43 (i : Nat) (p : Option (Nat × Nat)) (w : World) : (eqGuard .neq 43 (.tmp i) (.const (.pointer none)) (ptr p) (.pointer none)).run Try.prog w = .ok () w := by
  cases p <;> kernel_rfl
theorem neq44 (p : Option (Nat × Nat)) (w : World) : (binOp .neq 44 (ptr p) (.pointer none)).run Try.prog w = .ok (.bool p.isSome) w := by
  cases p <;> kernel_rfl
theorem grd44 (i : Nat) (p : Option (Nat × Nat)) (w : World) : (eqGuard .neq 44 (.tmp i) (.const (.pointer none)) (ptr p) (.pointer none)).run Try.prog w = .ok () w := by
  cases p <;> kernel_rfl
theorem neq45 (p : Option (Nat × Nat)) (w : World) : (binOp .neq 45 (ptr p) (.pointer none)).run Try.prog w = .ok (.bool p.isSome) w := by
  cases p <;> kernel_rfl
theorem grd45 (i : Nat) (p : Option (Nat × Nat)) (w : World) : (eqGuard .neq 45 (.tmp i) (.const (.pointer none)) (ptr p) (.pointer none)).run Try.prog w = .ok () w := by
  cases p <;> kernel_rfl
set_option maxRecDepth 100000 in
set_option maxHeartbeats 6400000 in
theorem req31 (t : TR) (w : World) (h : TOK w t) : Calls Try.prog 31 #[.agg t.cells] w fun e w' => Asks w t e w' := by
  have HT := hide h
  clear h
  have q43 := neq43
  have q44 := neq44
  have q45 := neq45
  have g43 := grd43
  have g44 := grd44
  have g45 := grd45
  have HS : Hid (RS w t none none none none none (((w.alloc (.cells t.cells 47)).alloc (.cells #[.pointer none, .pointer none, .pointer none, .pointer none, .pointer none, .bool false] 59)).alloc (.cells #[.pointer none, .pointer none, .pointer none, .pointer none, .pointer none, .bool false] 59))) := hide (by
    have o := (((Old.refl w).alloc (.cells t.cells 47)).alloc (.cells #[.pointer none, .pointer none, .pointer none, .pointer none, .pointer none, .bool false] 59)).alloc (.cells #[.pointer none, .pointer none, .pointer none, .pointer none, .pointer none, .bool false] 59)
    refine ⟨?_, ?_, ?_, by simp, fun W _ => ⟨fun b o e => (by cases e), fun b o e => (by cases e), fun b o e => (by cases e), fun b o e => (by cases e), fun b o e => (by cases e)⟩, o⟩
    · exact (Below.heap_alloc _ _ _ (by simp; omega)).trans ((Below.heap_alloc _ _ _ (by simp)).trans (heap_alloc_new w _))
    · refine (Below.heap_alloc _ _ _ (by simp)).trans ?_
      have := heap_alloc_new (w.alloc (.cells t.cells 47)) (.cells #[.pointer none, .pointer none, .pointer none, .pointer none, .pointer none, .bool false] 59)
      simpa using this
    · have := heap_alloc_new ((w.alloc (.cells t.cells 47)).alloc (.cells #[.pointer none, .pointer none, .pointer none, .pointer none, .pointer none, .bool false] 59)) (.cells #[.pointer none, .pointer none, .pointer none, .pointer none, .pointer none, .bool false] 59)
      simpa [ptr] using this)
  go_enter Try.func31, Try.ntmps31
  go_upto_if 11 with fail
  generalize hW : (((w.alloc (.cells t.cells 47)).alloc (.cells #[.pointer none, .pointer none, .pointer none, .pointer none, .pointer none, .bool false] 59)).alloc (.cells #[.pointer none, .pointer none, .pointer none, .pointer none, .pointer none, .bool false] 59)) = w0 at *
  clear hW
  go_cut [] (fun wx => ∃ q0, q0.isSome = t.pm.isSome ∧ Hid (RS w t q0 none none none none wx))
  case first =>
    have x2 : w0.cell? ⟨w.heap.size, 2, none⟩ = some (ptr t.pm) := cell_of_row _ _ 2 _ _ _ HS.out.box
    have y0 : w0.cell? ⟨w.heap.size + 1 + 1, 0, none⟩ = some (ptr none) := cell_of_row _ _ 0 _ _ _ HS.out.q
    have f0 := frozen_of_row 0 HS.out.q
    have l2 := lt_of_some HS.out.q
    have l0 := lt_of_some HS.out.box
    have TT := HT.out.old HS.out.old
    cases hp : t.pm with
    | none =>
      have e1 : t.pm.isSome = false := by rw [hp]; rfl
      have HN := hide hp
      clear TT hp
      go_wp2
      go_meet
      exact ⟨none, by rw [HN.out], HS⟩
    | some q =>
      obtain ⟨qb, qo⟩ := q
      have e1 : t.pm.isSome = true := by rw [hp]; rfl
      have e2 : ptr t.pm = .pointer (some ⟨qb, qo, none⟩) := by rw [hp]; rfl
      have x := TT.m qb qo hp
      have lx := cell_lt x
      have HN := hide hp
      have HP : Hid (RS w t (some (w0.heap.size, 0)) none none none none ((w0.setCell ⟨w.heap.size + 1 + 1, 0, none⟩ (.pointer (some ⟨w0.heap.size, 0, none⟩))).alloc (.cells #[.int .u8 t.m] 70))) := hide (HS.out.put 0 (.cells #[.int .u8 t.m] 70) (some (w0.heap.size, 0)) none none none none rfl (fun W h hn => ⟨fun b o e => (by cases e; exact cell_of_row _ _ 0 _ _ _ hn), h.n, h.d, h.p, h.ac⟩))
      clear TT hp
      go_wp2
      go_meet
      exact ⟨_, by rw [HN.out]; rfl, HP⟩
  case rest =>
  obtain ⟨q0, e0, H0⟩ := hcut
  rename World => w1
  have b1 : w1.cell? ⟨w.heap.size, 3, none⟩ = some (ptr t.ps) := cell_of_row _ _ 3 _ _ _ H0.out.box
  go_upto_if 19 with fail
  go_cut [] (fun wx => ∃ q1, q1.isSome = t.ps.isSome ∧ Hid (RS w t q0 q1 none none none wx))
  case first =>
    have x3 : w1.cell? ⟨w.heap.size, 3, none⟩ = some (ptr t.ps) := cell_of_row _ _ 3 _ _ _ H0.out.box
    have y0 : w1.cell? ⟨w.heap.size + 1 + 1, 1, none⟩ = some (ptr none) := cell_of_row _ _ 1 _ _ _ H0.out.q
    have f0 := frozen_of_row 1 H0.out.q
    have l2 := lt_of_some H0.out.q
    have l0 := lt_of_some H0.out.box
    have TT := HT.out.old H0.out.old
    cases hp : t.ps with
    | none =>
      have e1 : t.ps.isSome = false := by rw [hp]; rfl
      have HN := hide hp
      clear TT hp
      go_wp2
      go_meet
      exact ⟨none, by rw [HN.out], H0⟩
    | some q =>
      obtain ⟨qb, qo⟩ := q
      have e1 : t.ps.isSome = true := by rw [hp]; rfl
      have e2 : ptr t.ps = .pointer (some ⟨qb, qo, none⟩) := by rw [hp]; rfl
      have n0 : w1.cell? ⟨qb, qo, none⟩ = _ := TT.n qb qo hp 0 _ rfl
      have n1 : w1.cell? ⟨qb, qo + 1, none⟩ = _ := TT.n qb qo hp 1 _ rfl
      have n2 : w1.cell? ⟨qb, qo + 2, none⟩ = _ := TT.n qb qo hp 2 _ rfl
      have n3 : w1.cell? ⟨qb, qo + 3, none⟩ = _ := TT.n qb qo hp 3 _ rfl
      have n4 : w1.cell? ⟨qb, qo + 4, none⟩ = _ := TT.n qb qo hp 4 _ rfl
      have lx := cell_lt n0
      have HN := hide hp
      have HP : Hid (RS w t q0 (some (w1.heap.size, 0)) none none none ((w1.setCell ⟨w.heap.size + 1 + 1, 1, none⟩ (.pointer (some ⟨w1.heap.size, 0, none⟩))).alloc (.cells t.n.cells 61))) := hide (H0.out.put 1 (.cells t.n.cells 61) q0 (some (w1.heap.size, 0)) none none none rfl (fun W h hn => ⟨h.m, fun b o e f v hv => (by cases e; rw [Nat.zero_add]; exact (cell_of_row _ _ f _ _ _ hn).trans hv), h.d, h.p, h.ac⟩))
      clear TT hp
      go_wp2
      go_region
      all_goals
        go_wp2
        go_meet
        exact ⟨_, by rw [HN.out]; rfl, hide HP.out.drew⟩
  case rest =>
  obtain ⟨q1, e1, H1⟩ := hcut
  rename World => w2
  have b2 : w2.cell? ⟨w.heap.size, 4, none⟩ = some (ptr t.pd) := cell_of_row _ _ 4 _ _ _ H1.out.box
  go_upto_if 39 with fail
  go_cut [] (fun wx => ∃ q2, q2.isSome = t.pd.isSome ∧ Hid (RS w t q0 q1 q2 none none wx))
  case first =>
    have x4 : w2.cell? ⟨w.heap.size, 4, none⟩ = some (ptr t.pd) := cell_of_row _ _ 4 _ _ _ H1.out.box
    have y0 : w2.cell? ⟨w.heap.size + 1 + 1, 2, none⟩ = some (ptr none) := cell_of_row _ _ 2 _ _ _ H1.out.q
    have f0 := frozen_of_row 2 H1.out.q
    have l2 := lt_of_some H1.out.q
    have l0 := lt_of_some H1.out.box
    have TT := HT.out.old H1.out.old
    cases hp : t.pd with
    | none =>
      have e1 : t.pd.isSome = false := by rw [hp]; rfl
      have HN := hide hp
      clear TT hp
      go_wp2
      go_meet
      exact ⟨none, by rw [HN.out], H1⟩
    | some q =>
      obtain ⟨qb, qo⟩ := q
      have e1 : t.pd.isSome = true := by rw [hp]; rfl
      have e2 : ptr t.pd = .pointer (some ⟨qb, qo, none⟩) := by rw [hp]; rfl
      have x := TT.d qb qo hp
      have lx := cell_lt x
      have HN := hide hp
      have HP : Hid (RS w t q0 q1 (some (w2.heap.size, 0)) none none ((w2.setCell ⟨w.heap.size + 1 + 1, 2, none⟩ (.pointer (some ⟨w2.heap.size, 0, none⟩))).alloc (.cells #[.string t.dn] 64))) := hide (H1.out.put 2 (.cells #[.string t.dn] 64) q0 q1 (some (w2.heap.size, 0)) none none rfl (fun W h hn => ⟨h.m, h.n, fun b o e => (by cases e; exact cell_of_row _ _ 0 _ _ _ hn), h.p, h.ac⟩))
      clear TT hp
      go_wp2
      go_meet
      exact ⟨_, by rw [HN.out]; rfl, HP⟩
  case rest =>
  obtain ⟨q2, e2, H2⟩ := hcut
  rename World => w3
  have b3 : w3.cell? ⟨w.heap.size, 5, none⟩ = some (ptr t.pp) := cell_of_row _ _ 5 _ _ _ H2.out.box
  go_upto_if 47 with fail
  go_cut [] (fun wx => ∃ q3, q3.isSome = t.pp.isSome ∧ Hid (RS w t q0 q1 q2 q3 none wx))
  case first =>
    have x5 : w3.cell? ⟨w.heap.size, 5, none⟩ = some (ptr t.pp) := cell_of_row _ _ 5 _ _ _ H2.out.box
    have y0 : w3.cell? ⟨w.heap.size + 1 + 1, 3, none⟩ = some (ptr none) := cell_of_row _ _ 3 _ _ _ H2.out.q
    have f0 := frozen_of_row 3 H2.out.q
    have l2 := lt_of_some H2.out.q
    have l0 := lt_of_some H2.out.box
    have TT := HT.out.old H2.out.old
    cases hp : t.pp with
    | none =>
      have e1 : t.pp.isSome = false := by rw [hp]; rfl
      have HN := hide hp
      clear TT hp
      go_wp2
      go_meet
      exact ⟨none, by rw [HN.out], H2⟩
    | some q =>
      obtain ⟨qb, qo⟩ := q
      have e1 : t.pp.isSome = true := by rw [hp]; rfl
      have e2 : ptr t.pp = .pointer (some ⟨qb, qo, none⟩) := by rw [hp]; rfl
      have x := TT.p qb qo hp
      have lx := cell_lt x
      have HN := hide hp
      have HP : Hid (RS w t q0 q1 q2 (some (w3.heap.size, 0)) none ((w3.setCell ⟨w.heap.size + 1 + 1, 3, none⟩ (.pointer (some ⟨w3.heap.size, 0, none⟩))).alloc (.cells #[.int .u8 t.p] 71))) := hide (H2.out.put 3 (.cells #[.int .u8 t.p] 71) q0 q1 q2 (some (w3.heap.size, 0)) none rfl (fun W h hn => ⟨h.m, h.n, h.d, fun b o e => (by cases e; exact cell_of_row _ _ 0 _ _ _ hn), h.ac⟩))
      clear TT hp
      go_wp2
      go_meet
      exact ⟨_, by rw [HN.out]; rfl, HP⟩
  case rest =>
  obtain ⟨q3, e3, H3⟩ := hcut
  rename World => w4
  have b4 : w4.cell? ⟨w.heap.size, 6, none⟩ = some (ptr t.pa) := cell_of_row _ _ 6 _ _ _ H3.out.box
  go_upto_if 55 with fail
  go_cut [] (fun wx => ∃ q4, q4.isSome = t.pa.isSome ∧ Hid (RS w t q0 q1 q2 q3 q4 wx))
  case first =>
    have x6 : w4.cell? ⟨w.heap.size, 6, none⟩ = some (ptr t.pa) := cell_of_row _ _ 6 _ _ _ H3.out.box
    have y0 : w4.cell? ⟨w.heap.size + 1 + 1, 4, none⟩ = some (ptr none) := cell_of_row _ _ 4 _ _ _ H3.out.q
    have f0 := frozen_of_row 4 H3.out.q
    have l2 := lt_of_some H3.out.q
    have l0 := lt_of_some H3.out.box
    have TT := HT.out.old H3.out.old
    cases hp : t.pa with
    | none =>
      have e1 : t.pa.isSome = false := by rw [hp]; rfl
      have HN := hide hp
      clear TT hp
      go_wp2
      go_meet
      exact ⟨none, by rw [HN.out], H3⟩
    | some q =>
      obtain ⟨qb, qo⟩ := q
      have e1 : t.pa.isSome = true := by rw [hp]; rfl
      have e2 : ptr t.pa = .pointer (some ⟨qb, qo, none⟩) := by rw [hp]; rfl
      have x := TT.ac qb qo hp
      have lx := cell_lt x
      have HN := hide hp
      have HP : Hid (RS w t q0 q1 q2 q3 (some (w4.heap.size, 0)) ((w4.setCell ⟨w.heap.size + 1 + 1, 4, none⟩ (.pointer (some ⟨w4.heap.size, 0, none⟩))).alloc (.cells #[.int .u8 t.ac] 72))) := hide (H3.out.put 4 (.cells #[.int .u8 t.ac] 72) q0 q1 q2 q3 (some (w4.heap.size, 0)) rfl (fun W h hn => ⟨h.m, h.n, h.d, h.p, fun b o e => (by cases e; exact cell_of_row _ _ 0 _ _ _ hn)⟩))
      clear TT hp
      go_wp2
      go_meet
      exact ⟨_, by rw [HN.out]; rfl, HP⟩
  case rest =>
  obtain ⟨q4, e4, H4⟩ := hcut
  rename World => w5
  have b7 : w5.cell? ⟨w.heap.size, 7, none⟩ = some (.bool t.ma) := cell_of_row _ _ 7 _ _ _ H4.out.box
  obtain ⟨r0, hr0⟩ : ∃ r, r = q0.map (fun x => (⟨x.1, x.2, none⟩ : Addr)) := ⟨_, rfl⟩
  have c0 : w5.cell? ⟨w.heap.size + 1 + 1, 0, none⟩ = some (.pointer r0) := by rw [hr0]; exact cell_of_row _ _ 0 _ _ _ H4.out.q
  have HR0 := hide hr0
  clear hr0
  obtain ⟨r1, hr1⟩ : ∃ r, r = q1.map (fun x => (⟨x.1, x.2, none⟩ : Addr)) := ⟨_, rfl⟩
  have c1 : w5.cell? ⟨w.heap.size + 1 + 1, 1, none⟩ = some (.pointer r1) := by rw [hr1]; exact cell_of_row _ _ 1 _ _ _ H4.out.q
  have HR1 := hide hr1
  clear hr1
  obtain ⟨r2, hr2⟩ : ∃ r, r = q2.map (fun x => (⟨x.1, x.2, none⟩ : Addr)) := ⟨_, rfl⟩
  have c2 : w5.cell? ⟨w.heap.size + 1 + 1, 2, none⟩ = some (.pointer r2) := by rw [hr2]; exact cell_of_row _ _ 2 _ _ _ H4.out.q
  have HR2 := hide hr2
  clear hr2
  obtain ⟨r3, hr3⟩ : ∃ r, r = q3.map (fun x => (⟨x.1, x.2, none⟩ : Addr)) := ⟨_, rfl⟩
  have c3 : w5.cell? ⟨w.heap.size + 1 + 1, 3, none⟩ = some (.pointer r3) := by rw [hr3]; exact cell_of_row _ _ 3 _ _ _ H4.out.q
  have HR3 := hide hr3
  clear hr3
  obtain ⟨r4, hr4⟩ : ∃ r, r = q4.map (fun x => (⟨x.1, x.2, none⟩ : Addr)) := ⟨_, rfl⟩
  have c4 : w5.cell? ⟨w.heap.size + 1 + 1, 4, none⟩ = some (.pointer r4) := by rw [hr4]; exact cell_of_row _ _ 4 _ _ _ H4.out.q
  have HR4 := hide hr4
  clear hr4
  have c5 : w5.cell? ⟨w.heap.size + 1 + 1, 5, none⟩ = some (.bool false) := cell_of_row _ _ 5 _ _ _ H4.out.q
  have f5 := frozen_of_row 5 H4.out.q
  have d0 : w5.cell? ⟨w.heap.size + 1, 0, none⟩ = some (.pointer none) := cell_of_row _ _ 0 _ _ _ H4.out.res
  have g0 := frozen_of_row 0 H4.out.res
  have d1 : w5.cell? ⟨w.heap.size + 1, 1, none⟩ = some (.pointer none) := cell_of_row _ _ 1 _ _ _ H4.out.res
  have g1 := frozen_of_row 1 H4.out.res
  have d2 : w5.cell? ⟨w.heap.size + 1, 2, none⟩ = some (.pointer none) := cell_of_row _ _ 2 _ _ _ H4.out.res
  have g2 := frozen_of_row 2 H4.out.res
  have d3 : w5.cell? ⟨w.heap.size + 1, 3, none⟩ = some (.pointer none) := cell_of_row _ _ 3 _ _ _ H4.out.res
  have g3 := frozen_of_row 3 H4.out.res
  have d4 : w5.cell? ⟨w.heap.size + 1, 4, none⟩ = some (.pointer none) := cell_of_row _ _ 4 _ _ _ H4.out.res
  have g4 := frozen_of_row 4 H4.out.res
  have d5 : w5.cell? ⟨w.heap.size + 1, 5, none⟩ = some (.bool false) := cell_of_row _ _ 5 _ _ _ H4.out.res
  have g5 := frozen_of_row 5 H4.out.res
  clear q43 q44 q45 g43 g44 g45
  go_wp2
  have e5 : rq (mkT t q0 q1 q2 q3 q4 t.ma) = #[.pointer r0, .pointer r1, .pointer r2, .pointer r3, .pointer r4, .bool t.ma] := by
    rw [HR0.out, HR1.out, HR2.out, HR3.out, HR4.out]; rfl
  refine bodyPost_ret (v := .agg #[.pointer r0, .pointer r1, .pointer r2, .pointer r3, .pointer r4, .bool t.ma]) ?_ rfl ⟨mkT t q0 q1 q2 q3 q4 t.ma, ⟨rfl, rfl, e0, e1, e2, e3, e4, rfl, rfl, rfl, rfl, rfl, rfl, rfl⟩, by rw [e5], fun W hW => H4.out.tok W (fun b h1 h2 => (hW b (by omega) (by simpa using h2)).trans ?_), ?_⟩
  · simp [results, Try.results31, go_sem, d0, d1, d2, d3, d4, d5]
  · have hne : b ≠ w.heap.size + 1 := by omega
    have hne2 : b ≠ w.heap.size + 1 + 1 := by omega
    rw [heap_setCell_other _ _ _ _ hne, heap_setCell_other _ _ _ _ hne, heap_setCell_other _ _ _ _ hne, heap_setCell_other _ _ _ _ hne, heap_setCell_other _ _ _ _ hne, heap_setCell_other _ _ _ _ hne, heap_setCell_other _ _ _ _ hne2]
  · have ha : w.heap.size ≤ w.heap.size + 1 := by omega
    have hb : w.heap.size ≤ w.heap.size + 1 + 1 := by omega
    exact ((((((H4.out.old.set (p := ⟨w.heap.size + 1 + 1, 5, none⟩) hb _).set (p := ⟨w.heap.size + 1, 0, none⟩) ha _).set (p := ⟨w.heap.size + 1, 1, none⟩) ha _).set (p := ⟨w.heap.size + 1, 2, none⟩) ha _).set (p := ⟨w.heap.size + 1, 3, none⟩) ha _).set (p := ⟨w.heap.size + 1, 4, none⟩) ha _).set (p := ⟨w.heap.size + 1, 5, none⟩) ha _
end Go.Proofs.Qxb6609239a.R
