import Derived.Test.Qxb6609232aNamed
namespace Go.Proofs.Qxb6609232a.T
open Go.RowKit Go.Maps Go.ChangeShapes Go.WideShapes Go.ChangeAt Go.WideMaps Go.WideElems
set_option linter.unusedVariables false
attribute [local go_sem ↓] Go.wp_at_zero Go.wp_at_succ
theorem RI.keepAll {B : Nat} {w w' : World} {bp bt : Nat} {rs : List (List Value)} {D : DataW Unit} {rcs : Array Value} {mo : Option Nat} {nb : Nat} {vb : Value} {tcs : Array Value} {G C : Nat → Nat} {n : Nat} (h : RI B w bp bt rs D rcs mo nb vb tcs G C n)
    (hk : ∀ b, b < w.heap.size → w'.heap[b]? = w.heap[b]?) : RI B w' bp bt rs D rcs mo nb vb tcs G C n := by
  refine ⟨h.hB, (hk _ (lt_of_some h.rd)).trans h.rd, h.sz, h.r18, h.r19, ?_, h.hn, h.n1, h.n2, h.nv, h.ti.keep hk⟩
  rcases h.ms with h1 | ⟨m, h1, h2, es, cl, e, h3⟩
  · exact .inl h1
  · exact .inr ⟨m, h1, h2, es, cl, (hk _ (lt_of_some e)).trans e, h3⟩
/-- behind a tree's add -/
theorem RI.added {B : Nat} {w W w1 : World} {bp bt : Nat} {rs rs' : List (List Value)} {D : DataW Unit} {rcs : Array Value} {mo : Option Nat} {nb : Nat} {vb : Value} {tcs : Array Value} {G C : Nat → Nat} {n : Nat} (h : RI B w bp bt rs D rcs mo nb vb tcs G C n)
    (hW : ∀ b, b < w.heap.size → W.heap[b]? = w.heap[b]?) (hl : rs.length ≤ rs'.length) (ha : Added B W bt rs' w1) : ∃ nb' vb' tcs' G' C', RI B w1 bp bt rs' D rcs mo nb' vb' tcs' G' C' n := by
  obtain ⟨nb', vb', tcs', G', C', a1, a2, a3, hT, hF⟩ := ha
  have h := h.keepAll hW
  refine ⟨nb', vb', tcs', G', C', h.hB, hF.keep _ _ _ _ h.rd (by decide) (by decide) (by decide), h.sz, h.r18, h.r19, ?_, Nat.le_trans h.hn hl, a1, a2, a3, hT⟩
  rcases h.ms with h1 | ⟨m, h1, h2, es, cl, e, h3⟩
  · exact .inl h1
  · exact .inr ⟨m, h1, h2, es, cl, hF.keepm _ _ _ e, h3⟩
theorem props_kept (w : World) (X : Obj) (c : Array Value) {B bt : Nat} {rs : List (List Value)} {w1 : World} (h : Added B ((w.alloc X).alloc (.cells c 65)).drew bt rs w1) : w1.heap[w.heap.size + 1]? = some (.cells c 65 (0, 0)) := by
  obtain ⟨_, _, _, _, _, _, _, _, _, hF⟩ := h
  exact hF.keep _ _ _ _ (two_alloc w X (.cells c 65)) (by decide) (by decide) (by decide)
theorem Added.below {B : Nat} {w : World} {bt : Nat} {rs : List (List Value)} {w1 : World} (h : Added B w bt rs w1) : Below B w w1 := by
  obtain ⟨_, _, _, _, _, _, _, _, _, hF⟩ := h
  exact hF.below
theorem named14 (B bp bt i : Nat) (rs : List (List Value)) (D : DataW Unit) (rcs : Array Value) (mo : Option Nat) (nb : Nat) (vb : Value) (tcs : Array Value) (G C : Nat → Nat) (n : Nat) (r : List Value) (f : Int) (a : ByteArray) (w : World) (hB : B ≤ w.heap.size)
    (h : RI B w bp bt rs D rcs mo nb vb tcs G C n) (hk : rs.length ≤ 16384) (hn' : n + 1 ≤ rs.length) (hr : rs[i]? = some r) (hf : r[6]? = some (.int .u8 f)) (ha : a.size ≤ maxLen) (hi : (Lit.int .u32 i).wf = true) :
    Calls Try.prog 14 #[.pointer (some ⟨bp, 0, none⟩), .int .u32 i, .string a] w fun e w' => e = .returned (.tuple #[]) ∧ Below B w w' ∧
      RX B w' bp bt (rs.set i (r.set 6 (.int .u8 (bits .or .u8 f 16)))) (D.put (.string a.data.toList) (.lit (.int .u32 i))) := by
  cases mo with
  | none => exact (named_none B bp bt i rs D rcs nb vb tcs G C n r f a w hB h hk hr hf ha hi).mono fun e w' ⟨h1, h2, rcs', m, h3⟩ => ⟨h1, h2, _, _, _, _, _, _, _, _, h3⟩
  | some m => exact (named_some B bp bt i m rs D rcs nb vb tcs G C n r f a w hB h hk hn' hr hf ha hi).mono fun e w' ⟨h1, h2, n', _, h3⟩ => ⟨h1, h2, _, _, _, _, _, _, _, _, h3⟩
theorem u32_wf (k : Nat) (h : k < 16384) : (Lit.int .u32 (k : Int)).wf = true := by
  have e1 : IntKind.u32.min = 0 := rfl
  have e2 : IntKind.u32.max = 4294967295 := rfl
  simp [Lit.wf]; omega
set_option maxRecDepth 100000 in
set_option maxHeartbeats 3200000 in
theorem yadd_no (B bp bt : Nat) (rs : List (List Value)) (D : DataW Unit) (rcs : Array Value) (mo : Option Nat) (nb : Nat) (vb : Value) (tcs : Array Value) (G C : Nat → Nat) (n : Nat) (r0 r1 r2 r3 r4 r5 r6 r7 p0 p1 p3 : Int) (p4 p5 p6 : Bool) (a : ByteArray) (w : World) (hB : B ≤ w.heap.size)
    (h : RI B w bp bt rs D rcs mo nb vb tcs G C n) (hk : rs.length < 16384) (ha : a.size ≤ maxLen) (he : a.toList.isEmpty = true) :
    Calls Try.prog 11 #[.pointer (some ⟨bp, 0, none⟩), .agg (rec8 r0 r1 r2 r3 r4 r5 r6 r7), .agg #[.int .i64 p0, .int .i64 p1, .string a, .int .u8 p3, .bool p4, .bool p5, .bool p6]] w fun e w' => e = .returned (.int .u32 rs.length) ∧ Below B w w' ∧
      RX B w' bp bt (rs ++ [(rec8 r0 r1 r2 r3 r4 r5 r6 r7).toList]) D := by
  have HI := hide h
  have l1 := lt_of_some h.rd
  have c18 := (cell_of_row w bp 18 _ _ _ h.rd).trans h.r18
  clear h
  have l1a : bp < w.heap.size + 1 := by omega
  have hfld : ∀ (w : World) (x y : Value), (Instr.field 69 (.agg #[x, y]) 1).run Try.prog w = .ok y w := fun w x y => by kernel_rfl
  go_enter Try.func11, Try.ntmps11
  go_wp2_with fail
  go_region_with (go_at_call 13; refine (add13 B bt rs nb vb tcs G C r0 r1 r2 r3 r4 r5 r6 r7 _ (by simp; omega) HI.out.n1 HI.out.n2 HI.out.nv ((HI.out.ti.alloc _).alloc _).drew hk).mono ?_; rintro e w1 ⟨rfl, hadd⟩; have HA := hide hadd; have hb65 := props_kept w _ _ hadd; have xa : w1.cell? ⟨w.heap.size + 1, 2, none⟩ = some (.string a) := cell_of_row w1 (w.heap.size + 1) 2 _ _ _ hb65; clear hadd hb65)
  all_goals
    have HWW : Hid (∀ b, b < w.heap.size → _) := hide (fun b hb => (Below.heap_alloc (w.alloc (.cells (rec8 r0 r1 r2 r3 r4 r5 r6 r7) 63)) (.cells #[.int .i64 p0, .int .i64 p1, .string a, .int .u8 p3, .bool p4, .bool p5, .bool p6] 65) b (by simp; omega)).trans (Below.heap_alloc w (.cells (rec8 r0 r1 r2 r3 r4 r5 r6 r7) 63) b hb))
    have HBW : Hid (Below B w w1) := hide ((((Below.refl B w).alloc hB _).alloc (by simp; omega) _).drew.trans (HA.out.below))
    go_wp2_with fail
    go_ret
    obtain ⟨nb', vb', tcs', G', C', hI⟩ := HI.out.added (by exact HWW.out) (by simp) HA.out
    exact ⟨rfl, HBW.out, _, _, _, _, _, _, _, _, hI⟩
set_option maxRecDepth 100000 in
set_option maxHeartbeats 3200000 in
theorem yadd_yes (B bp bt : Nat) (rs : List (List Value)) (D : DataW Unit) (rcs : Array Value) (mo : Option Nat) (nb : Nat) (vb : Value) (tcs : Array Value) (G C : Nat → Nat) (n : Nat) (r0 r1 r2 r3 r4 r5 r6 r7 p0 p1 p3 : Int) (p4 p5 p6 : Bool) (a : ByteArray) (w : World) (hB : B ≤ w.heap.size)
    (h : RI B w bp bt rs D rcs mo nb vb tcs G C n) (hk : rs.length < 16384) (ha : a.size ≤ maxLen) (he : a.toList.isEmpty = false) :
    Calls Try.prog 11 #[.pointer (some ⟨bp, 0, none⟩), .agg (rec8 r0 r1 r2 r3 r4 r5 r6 r7), .agg #[.int .i64 p0, .int .i64 p1, .string a, .int .u8 p3, .bool p4, .bool p5, .bool p6]] w fun e w' => e = .returned (.int .u32 rs.length) ∧ Below B w w' ∧
      RX B w' bp bt (rs ++ [(rec8 r0 r1 r2 r3 r4 r5 (bits .or .u8 r6 16) r7).toList]) (D.put (.string a.data.toList) (.lit (.int .u32 rs.length))) := by
  have HI := hide h
  have l1 := lt_of_some h.rd
  have c18 := (cell_of_row w bp 18 _ _ _ h.rd).trans h.r18
  clear h
  have l1a : bp < w.heap.size + 1 := by omega
  have hfld : ∀ (w : World) (x y : Value), (Instr.field 69 (.agg #[x, y]) 1).run Try.prog w = .ok y w := fun w x y => by kernel_rfl
  go_enter Try.func11, Try.ntmps11
  go_wp2_with fail
  go_region_with (go_at_call 13; refine (add13 B bt rs nb vb tcs G C r0 r1 r2 r3 r4 r5 r6 r7 _ (by simp; omega) HI.out.n1 HI.out.n2 HI.out.nv ((HI.out.ti.alloc _).alloc _).drew hk).mono ?_; rintro e w1 ⟨rfl, hadd⟩; have HA := hide hadd; have hb65 := props_kept w _ _ hadd; have xa : w1.cell? ⟨w.heap.size + 1, 2, none⟩ = some (.string a) := cell_of_row w1 (w.heap.size + 1) 2 _ _ _ hb65; clear hadd hb65)
  all_goals
    have HWW : Hid (∀ b, b < w.heap.size → _) := hide (fun b hb => (Below.heap_alloc (w.alloc (.cells (rec8 r0 r1 r2 r3 r4 r5 r6 r7) 63)) (.cells #[.int .i64 p0, .int .i64 p1, .string a, .int .u8 p3, .bool p4, .bool p5, .bool p6] 65) b (by simp; omega)).trans (Below.heap_alloc w (.cells (rec8 r0 r1 r2 r3 r4 r5 r6 r7) 63) b hb))
    have HBW : Hid (Below B w w1) := hide ((((Below.refl B w).alloc hB _).alloc (by simp; omega) _).drew.trans (HA.out.below))
    obtain ⟨nb', vb', tcs', G', C', hI⟩ := HI.out.added (by exact HWW.out) (by simp) HA.out
    have Hn := hide (named14 B bp bt rs.length _ D rcs mo nb' vb' tcs' G' C' n (rec8 r0 r1 r2 r3 r4 r5 r6 r7).toList r6 a w1 (Nat.le_trans hB HBW.out.size) hI (by simp; omega) (by have := HI.out.hn; simp; omega) (by simp) rfl ha (u32_wf _ hk))
    clear hI
    go_wp2_with (go_at_call 14; refine Hn.out.mono ?_; rintro e w2 ⟨rfl, hb2, hx2⟩)
    go_ret
    refine ⟨rfl, HBW.out.trans hb2, ?_⟩
    have e9 : (rs ++ [(rec8 r0 r1 r2 r3 r4 r5 r6 r7).toList]).set rs.length ((rec8 r0 r1 r2 r3 r4 r5 r6 r7).toList.set 6 (.int .u8 (bits .or .u8 r6 16))) = rs ++ [(rec8 r0 r1 r2 r3 r4 r5 (bits .or .u8 r6 16) r7).toList] := by
      rw [List.set_append_right _ _ (Nat.le_refl _), Nat.sub_self]; rfl
    rw [← e9]; exact hx2
end Go.Proofs.Qxb6609232a.T
