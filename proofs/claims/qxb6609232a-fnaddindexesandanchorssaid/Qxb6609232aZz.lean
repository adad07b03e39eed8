import Derived.Test.Qxb6609232aYadd
namespace Go.Proofs.Qxb6609232a.T
open Go.RowKit Go.Maps Go.ChangeShapes Go.WideShapes Go.ChangeAt Go.WideMaps Go.WideElems
set_option linter.unusedVariables false
attribute [local go_sem ↓] Go.wp_at_zero Go.wp_at_succ
/-- the record that an add leaves -/
def rec1 (a : ByteArray) (r0 r1 r2 r3 r4 r5 r6 r7 : Int) : List Value := (rec8 r0 r1 r2 r3 r4 r5 (if a.toList.isEmpty then r6 else bits .or .u8 r6 16) r7).toList
def put1 (a : ByteArray) (k : Nat) (D : DataW Unit) : DataW Unit := if a.toList.isEmpty then D else D.put (.string a.data.toList) (.lit (.int .u32 k))
set_option maxRecDepth 100000 in
set_option maxHeartbeats 3200000 in
theorem zzadd (B bp bt : Nat) (rs : List (List Value)) (D : DataW Unit) (r0 r1 r2 r3 r4 r5 r6 r7 p0 p1 p3 : Int) (p4 p5 p6 : Bool) (a : ByteArray) (w : World) (hB : B ≤ w.heap.size)
    (h : RX B w bp bt rs D) (hk : rs.length < 16384) (ha : a.size ≤ maxLen) :
    Calls Try.prog 6 #[.pointer (some ⟨bp, 0, none⟩), .int .u32 r0, .int .u32 r1, .int .u32 r2, .int .u32 r3, .int .u8 r4, .int .u8 r5, .int .u8 r6, .int .u8 r7, .int .i64 p0, .int .i64 p1, .string a, .int .u8 p3, .bool p4, .bool p5, .bool p6] w
      fun e w' => e = .returned (.int .u32 rs.length) ∧ Below B w w' ∧ RX B w' bp bt (rs ++ [rec1 a r0 r1 r2 r3 r4 r5 r6 r7]) (put1 a rs.length D) := by
  obtain ⟨rcs, mo, nb, vb, tcs, G, C, n, hI⟩ := h
  have Hc : Hid (Calls Try.prog 11 #[.pointer (some ⟨bp, 0, none⟩), .agg (rec8 r0 r1 r2 r3 r4 r5 r6 r7), .agg #[.int .i64 p0, .int .i64 p1, .string a, .int .u8 p3, .bool p4, .bool p5, .bool p6]] w fun e w' => e = .returned (.int .u32 rs.length) ∧ Below B w w' ∧
      RX B w' bp bt (rs ++ [rec1 a r0 r1 r2 r3 r4 r5 r6 r7]) (put1 a rs.length D)) := hide (by
    cases he : a.toList.isEmpty
    · unfold rec1 put1; rw [he]
      exact yadd_yes B bp bt rs D rcs mo nb vb tcs G C n r0 r1 r2 r3 r4 r5 r6 r7 p0 p1 p3 p4 p5 p6 a w hB hI hk ha he
    · unfold rec1 put1; rw [he]
      exact yadd_no B bp bt rs D rcs mo nb vb tcs G C n r0 r1 r2 r3 r4 r5 r6 r7 p0 p1 p3 p4 p5 p6 a w hB hI hk ha he)
  clear hI
  go_enter Try.func6, Try.ntmps6
  go_wp2_with (go_at_call 11; refine Hc.out.mono ?_; rintro e w' ⟨rfl, hb, hx⟩)
  go_ret
  exact ⟨rfl, hb, hx⟩
theorem recordCount (B bp bt : Nat) (rs : List (List Value)) (D : DataW Unit) (w : World) (h : RX B w bp bt rs D) :
    Calls Try.prog 7 #[.pointer (some ⟨bp, 0, none⟩)] w fun e w' => e = .returned (.int .u32 rs.length) ∧ w' = w := by
  obtain ⟨rcs, mo, nb, vb, tcs, G, C, n, h⟩ := h
  have c18 := (cell_of_row w bp 18 _ _ _ h.rd).trans h.r18
  have c3 := (cell_of_row w bt 3 _ _ _ h.ti.tree).trans h.ti.t3
  clear h
  go_enter Try.func7, Try.ntmps7
  go_wp2
  go_ret
  exact ⟨rfl, rfl⟩
set_option maxHeartbeats 1000000 in
theorem recordAt (B bp bt i : Nat) (rs : List (List Value)) (D : DataW Unit) (w : World) (h : RX B w bp bt rs D) (hk : rs.length ≤ 16384) (r0 r1 r2 r3 r4 r5 r6 r7 : Int) (hr : rs[i]? = some (rec8 r0 r1 r2 r3 r4 r5 r6 r7).toList) :
    Calls Try.prog 8 #[.pointer (some ⟨bp, 0, none⟩), .int .u32 i] w fun e w' => e = .returned (.tuple #[.int .u32 r0, .int .u32 r1, .int .u32 r2, .int .u32 r3, .int .u8 r4, .int .u8 r5, .int .u8 r6, .int .u8 r7]) ∧ ∃ n, w' = w.drewN n := by
  obtain ⟨rcs, mo, nb, vb, tcs, G, C, n, h⟩ := h
  have c18 := (cell_of_row w bp 18 _ _ _ h.rd).trans h.r18
  have Hat := hide (at12 B bt i rs nb vb tcs G C w h.n1 h.n2 h.ti hk (List.getElem?_eq_some_iff.1 hr).1)
  have x0 : w.cell? ⟨G (i / 4096), i % 4096 * 8, none⟩ = some (.int .u32 r0) := h.ti.cell h.n2 hr (c := 0) (by decide)
  have x1 : w.cell? ⟨G (i / 4096), i % 4096 * 8 + 1, none⟩ = some (.int .u32 r1) := h.ti.cell h.n2 hr (c := 1) (by decide)
  have x2 : w.cell? ⟨G (i / 4096), i % 4096 * 8 + 2, none⟩ = some (.int .u32 r2) := h.ti.cell h.n2 hr (c := 2) (by decide)
  have x3 : w.cell? ⟨G (i / 4096), i % 4096 * 8 + 3, none⟩ = some (.int .u32 r3) := h.ti.cell h.n2 hr (c := 3) (by decide)
  have x4 : w.cell? ⟨G (i / 4096), i % 4096 * 8 + 4, none⟩ = some (.int .u8 r4) := h.ti.cell h.n2 hr (c := 4) (by decide)
  have x5 : w.cell? ⟨G (i / 4096), i % 4096 * 8 + 5, none⟩ = some (.int .u8 r5) := h.ti.cell h.n2 hr (c := 5) (by decide)
  have x6 : w.cell? ⟨G (i / 4096), i % 4096 * 8 + 6, none⟩ = some (.int .u8 r6) := h.ti.cell h.n2 hr (c := 6) (by decide)
  have x7 : w.cell? ⟨G (i / 4096), i % 4096 * 8 + 7, none⟩ = some (.int .u8 r7) := h.ti.cell h.n2 hr (c := 7) (by decide)
  clear h hr
  generalize G (i / 4096) = g at *
  generalize i % 4096 * 8 = o at *
  go_enter Try.func8, Try.ntmps8
  go_wp2_with (go_at_call 12; refine Hat.out.mono ?_; rintro e w' ⟨rfl, rfl⟩)
  go_quiet (fail)
  go_wp2_with fail
  refine bodyPost_ret (v := .tuple #[.int .u32 r0, .int .u32 r1, .int .u32 r2, .int .u32 r3, .int .u8 r4, .int .u8 r5, .int .u8 r6, .int .u8 r7]) (by simp [results, Try.results8, go_sem]) rfl ⟨rfl, _, rfl⟩
theorem zero24 (w : World) : (zeroValue 24).run Try.prog w = .ok (.int .u32 0) w := by kernel_rfl
set_option maxHeartbeats 1000000 in
theorem anchorAt (B bp bt : Nat) (rs : List (List Value)) (D : DataW Unit) (a : ByteArray) (w : World) (h : RX B w bp bt rs D) (ha : a.size ≤ maxLen) :
    Calls Try.prog 9 #[.pointer (some ⟨bp, 0, none⟩), .string a] w fun e w' => ∃ c : Int, e = .returned (.tuple #[.int .u32 c, .bool (Maps.has D (.string a.data.toList))]) ∧ D.atKey (.string a.data.toList) (.lit (.int .u32 0)) = .lit (.int .u32 c) ∧ (Lit.int .u32 c).wf = true ∧ w' = w := by
  obtain ⟨rcs, mo, nb, vb, tcs, G, C, n, h⟩ := h
  have c19 := (cell_of_row w bp 19 _ _ _ h.rd).trans h.r19
  have Hkey := hide (keyOf_string_mk Try.underlying9 ha)
  rcases h.ms with ⟨rfl, rfl⟩ | ⟨m, rfl, _, hown⟩
  · have hl : ∀ w : World, (Instr.lookup 54 (.map none) (.string a) true).run Try.prog w = .ok (.tuple #[.int .u32 0, .bool false]) w := fun w => by kernel_rfl
    clear h
    go_enter Try.func9, Try.ntmps9
    go_wp2
    go_ret2
    exact ⟨0, rfl, rfl, rfl, rfl⟩
  · have HO := hide hown
    clear h hown
    go_enter Try.func9, Try.ntmps9
    go_wp2_with (at_lookup; refine wpList_lookup_own_ok_int _ rfl _ _ 54 rfl 9 24 .u32 law Try.underlying54 Try.underlying24 (zero24 _) m n D rfl HO.out _ _ rfl Hkey.out ?_; intro c hat hwc; have HC := hide hat; clear hat)
    go_ret2
    exact ⟨c, rfl, HC.out, hwc, rfl⟩
theorem anchorCount (B bp bt : Nat) (rs : List (List Value)) (D : DataW Unit) (w : World) (h : RX B w bp bt rs D) :
    Calls Try.prog 10 #[.pointer (some ⟨bp, 0, none⟩)] w fun e w' => e = .returned (.int .i64 (Maps.size D)) ∧ w' = w := by
  obtain ⟨rcs, mo, nb, vb, tcs, G, C, n, h⟩ := h
  have c19 := (cell_of_row w bp 19 _ _ _ h.rd).trans h.r19
  rcases h.ms with ⟨rfl, rfl⟩ | ⟨m, rfl, _, hown⟩
  · clear h
    go_enter Try.func10, Try.ntmps10
    go_wp2
    go_ret
    exact ⟨rfl, rfl⟩
  · have HO := hide hown
    clear h hown
    go_enter Try.func10, Try.ntmps10
    go_wp2_with (at_len; refine wpList_len_own _ rfl _ 54 rfl 9 24 Try.underlying54 _ m n D rfl HO.out ?_)
    go_ret
    exact ⟨rfl, rfl⟩
end Go.Proofs.Qxb6609232a.T
