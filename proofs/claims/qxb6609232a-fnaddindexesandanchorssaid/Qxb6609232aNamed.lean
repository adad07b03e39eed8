import Derived.Test.Qxb6609232aReader
import Derived.Test.Qxb6609232aFlag
namespace Go.Proofs.Qxb6609232a.T
open Go.RowKit Go.Maps Go.ChangeShapes Go.WideShapes Go.ChangeAt Go.WideMaps Go.WideElems
set_option linter.unusedVariables false
attribute [local go_sem ↓] Go.wp_at_zero Go.wp_at_succ
theorem law : Keyed Try.prog 9 := string_keyed Try.underlying9
/-- the reader as it lies in memory -/
structure RI (B : Nat) (w : World) (bp bt : Nat) (rs : List (List Value)) (D : DataW Unit) (rcs : Array Value) (mo : Option Nat) (nb : Nat) (vb : Value) (tcs : Array Value) (G C : Nat → Nat) (n : Nat) : Prop where
  hB : B ≤ bp
  rd : w.heap[bp]? = some (.cells rcs 58 (0, 0))
  sz : rcs.size = 27
  r18 : rcs[18]? = some (.pointer (some ⟨bt, 0, none⟩))
  r19 : rcs[19]? = some (.map mo)
  ms : (mo = none ∧ D = .map []) ∨ ∃ m, mo = some m ∧ B ≤ m ∧ w.ownsMap Try.prog 9 (plainElem Try.prog 24) m n D
  hn : n ≤ rs.length
  n1 : nb * 4096 < rs.length + 4096
  n2 : rs.length ≤ nb * 4096
  nv : nb = 0 → vb = .slice none 0 0
  ti : TI B w bt rs nb vb tcs G C
def RX (B : Nat) (w : World) (bp bt : Nat) (rs : List (List Value)) (D : DataW Unit) : Prop := ∃ rcs mo nb vb tcs G C n, RI B w bp bt rs D rcs mo nb vb tcs G C n
theorem map_apart {w : World} {P : Program} {k : TypeId} {R : Value → Option (DataW Unit × List MemPlace)} {m n g : Nat} {D : DataW Unit} {cs : Array Value} {t : TypeId} {fr : Nat × Nat} (h : w.ownsMap P k R m n D) (hg : w.heap[g]? = some (.cells cs t fr)) : m ≠ g := by
  obtain ⟨es, clock, e, _⟩ := h
  rintro rfl; rw [e] at hg; cases hg
theorem TI.keepCells {B : Nat} {w w' : World} {bt : Nat} {rs : List (List Value)} {nb : Nat} {vb : Value} {tcs : Array Value} {G C : Nat → Nat} (h : TI B w bt rs nb vb tcs G C)
    (hk : ∀ (b : Nat) (cs : Array Value) (t : TypeId), w.heap[b]? = some (Obj.cells cs t (0, 0)) → (t = 48 ∨ t = 73 ∨ t = 63) → w'.heap[b]? = some (Obj.cells cs t (0, 0))) : TI B w' bt rs nb vb tcs G C := by
  refine ⟨h.hB, hk _ _ _ h.tree (.inl rfl), h.sz, h.t2, h.t3, row_keep h.own (fun g hg => ?_), fun j hj => row_keep (h.chunk j hj) (fun g hg => ?_), h.inj, h.wid⟩
  · obtain ⟨_, cs, e⟩ := row_block h.own hg
    rw [e]; exact hk _ _ _ e (.inr (.inl rfl))
  · obtain ⟨_, cs, e⟩ := row_block (h.chunk j hj) hg
    rw [e]; exact hk _ _ _ e (.inr (.inr rfl))
theorem grown_map {w w' : World} {m : Nat} {es : Array MapEntry} {c : Nat} (hm : w.heap[m]? = some (.map es c)) (hg : w.grownBy w' (some m)) : ∀ (b : Nat) (cs : Array Value) (t : TypeId), w.heap[b]? = some (Obj.cells cs t (0, 0)) → w'.heap[b]? = some (Obj.cells cs t (0, 0)) := by
  intro b cs t e
  rw [hg.block b (lt_of_some e) (fun x => by cases x; rw [hm] at e; cases e)]; exact e
set_option maxRecDepth 100000 in
set_option maxHeartbeats 3200000 in
theorem named_some (B bp bt i m : Nat) (rs : List (List Value)) (D : DataW Unit) (rcs : Array Value) (nb : Nat) (vb : Value) (tcs : Array Value) (G C : Nat → Nat) (n : Nat) (r : List Value) (f : Int) (a : ByteArray) (w : World) (hB : B ≤ w.heap.size)
    (h : RI B w bp bt rs D rcs (some m) nb vb tcs G C n) (hk : rs.length ≤ 16384) (hn' : n + 1 ≤ rs.length) (hr : rs[i]? = some r) (hf : r[6]? = some (.int .u8 f)) (ha : a.size ≤ maxLen) (hi : (Lit.int .u32 i).wf = true) :
    Calls Try.prog 14 #[.pointer (some ⟨bp, 0, none⟩), .int .u32 i, .string a] w fun e w' => e = .returned (.tuple #[]) ∧ Below B w w' ∧
      ∃ n', n' ≤ n + 1 ∧ RI B w' bp bt (rs.set i (r.set 6 (.int .u8 (bits .or .u8 f 16)))) (D.put (.string a.data.toList) (.lit (.int .u32 i))) rcs (some m) nb vb tcs G C n' := by
  have hil : i < rs.length := (List.getElem?_eq_some_iff.1 hr).1
  obtain ⟨e0, _⟩ | ⟨m', e0, hmB, hown⟩ := h.ms
  · cases e0
  cases e0
  have HI := hide h
  obtain ⟨hGB, cur, hG, _⟩ := h.ti.row (j := i / 4096) (by have := h.n2; omega)
  have n3 : bp ≠ G (i / 4096) := row_apart h.rd hG (by decide)
  have c18 := (cell_of_row w bp 18 _ _ _ h.rd).trans h.r18
  have c19 := (cell_of_row w bp 19 _ _ _ h.rd).trans h.r19
  have cf := (h.ti.cell h.n2 hr (c := 6) (by decide)).trans hf
  have ff := frozen_of_row (i % 4096 * 8 + 6) hG
  have hmn := map_apart hown hG
  have own1 := hide (hown.setCell (a := ⟨G (i / 4096), i % 4096 * 8 + 6, none⟩) hmn (.int .u8 (bits .or .u8 f 16)))
  have Hkey := hide (keyOf_string_mk Try.underlying9 ha)
  have Hat := hide (at12 B bt i rs nb vb tcs G C w h.n1 h.n2 h.ti hk hil)
  have HG := hide hG
  have Hr := hide hr
  have hnl : n < maxLen := by have := h.hn; unfold maxLen; omega
  clear h hown hG hr hf
  generalize hg : G (i / 4096) = g at *
  generalize ho : i % 4096 * 8 = o at *
  have HE := hide hg
  have HE2 := hide ho
  clear hg ho
  have hq : ∀ w : World, (binOp .eql 54 (.map (some m)) (.map none)).run Try.prog w = .ok (.bool false) w := fun w => by kernel_rfl
  go_enter Try.func14, Try.ntmps14
  go_wp2_with (first | (go_at_call 12; refine Hat.out.mono ?_; rintro e w' ⟨rfl, rfl⟩) | (at_mapUpdate; refine wpList_mapUpdate_own _ rfl _ _ _ 54 rfl 9 24 law Try.underlying54 _ m n D rfl own1.out hnl _ _ _ rfl rfl Hkey.out _ [] (plainElem_int Try.underlying24 hi) ?_; intro w1 hown1 hgrow1))
  refine bodyPost_end (v := .tuple #[]) (by simp [results, Try.results14, go_sem]) rfl ⟨rfl, ?_, n + 1, Nat.le_refl _, ?_⟩
  · exact ((Below.refl B _).setCell hGB _).grown hgrow1 (by simpa using hB) (fun k e => by cases e; exact hmB)
  · obtain rfl := HE.out
    obtain rfl := HE2.out
    have h := HI.out
    obtain ⟨es, cl, em, _⟩ := own1.out
    have gm := grown_map em hgrow1
    refine ⟨h.hB, gm _ _ _ (by rw [heap_setCell_other _ _ _ _ n3]; exact h.rd), h.sz, h.r18, h.r19, .inr ⟨m, rfl, hmB, hown1⟩, by rw [List.length_set]; exact hn', by rw [List.length_set]; exact h.n1, by rw [List.length_set]; exact h.n2, h.nv, ?_⟩
    exact (h.ti.flag h.n2 Hr.out (by decide) _).keepCells fun b cs t e _ => gm b cs t e
set_option maxRecDepth 100000 in
set_option maxHeartbeats 3200000 in
theorem named_none (B bp bt i : Nat) (rs : List (List Value)) (D : DataW Unit) (rcs : Array Value) (nb : Nat) (vb : Value) (tcs : Array Value) (G C : Nat → Nat) (n : Nat) (r : List Value) (f : Int) (a : ByteArray) (w : World) (hB : B ≤ w.heap.size)
    (h : RI B w bp bt rs D rcs none nb vb tcs G C n) (hk : rs.length ≤ 16384) (hr : rs[i]? = some r) (hf : r[6]? = some (.int .u8 f)) (ha : a.size ≤ maxLen) (hi : (Lit.int .u32 i).wf = true) :
    Calls Try.prog 14 #[.pointer (some ⟨bp, 0, none⟩), .int .u32 i, .string a] w fun e w' => e = .returned (.tuple #[]) ∧ Below B w w' ∧
      ∃ rcs' m, RI B w' bp bt (rs.set i (r.set 6 (.int .u8 (bits .or .u8 f 16)))) (D.put (.string a.data.toList) (.lit (.int .u32 i))) rcs' (some m) nb vb tcs G C 1 := by
  have hil : i < rs.length := (List.getElem?_eq_some_iff.1 hr).1
  obtain rfl : D = .map [] := by
    rcases h.ms with ⟨_, e⟩ | ⟨m', e, _⟩
    · exact e
    · cases e
  have HI := hide h
  obtain ⟨hGB, cur, hG, _⟩ := h.ti.row (j := i / 4096) (by have := h.n2; omega)
  have n3 : bp ≠ G (i / 4096) := row_apart h.rd hG (by decide)
  have n3' := Ne.symm n3
  have l1 := lt_of_some h.rd
  have l2 := lt_of_some hG
  have c18 := (cell_of_row w bp 18 _ _ _ h.rd).trans h.r18
  have c19 := (cell_of_row w bp 19 _ _ _ h.rd).trans h.r19
  have f19 := frozen_of_row 19 h.rd
  have cf := (h.ti.cell h.n2 hr (c := 6) (by decide)).trans hf
  have ff := frozen_of_row (i % 4096 * 8 + 6) hG
  have Hkey := hide (keyOf_string_mk Try.underlying9 ha)
  have Hat := hide (at12 B bt i rs nb vb tcs G C w h.n1 h.n2 h.ti hk hil)
  have HG := hide hG
  have Hr := hide hr
  clear h hG hr hf
  generalize hg : G (i / 4096) = g at *
  generalize ho : i % 4096 * 8 = o at *
  have HE := hide hg
  have HE2 := hide ho
  clear hg ho
  have hq : ∀ w : World, (binOp .eql 54 (.map none) (.map none)).run Try.prog w = .ok (.bool true) w := fun w => by kernel_rfl
  have hmm := @run_makeMap Try.prog
  have own0 : Hid ((((w.setCell ⟨g, o + 6, none⟩ (.int .u8 (bits .or .u8 f 16))).setCell ⟨bp, 19, none⟩ (.map (some w.heap.size))).alloc (.map #[] 0)).ownsMap Try.prog 9 (plainElem (H := Unit) Try.prog 24) w.heap.size 0 (.map [])) := hide (by
    have := World.ownsMap_made (H := Unit) ((w.setCell ⟨g, o + 6, none⟩ (.int .u8 (bits .or .u8 f 16))).setCell ⟨bp, 19, none⟩ (.map (some w.heap.size))) Try.prog 9 (plainElem Try.prog 24)
    rwa [World.size_setCell, World.size_setCell] at this)
  go_enter Try.func14, Try.ntmps14
  go_wp2_with (first | (go_at_call 12; refine Hat.out.mono ?_; rintro e w' ⟨rfl, rfl⟩) | (at_mapUpdate; refine wpList_mapUpdate_own _ rfl _ _ _ 54 rfl 9 24 law Try.underlying54 _ _ 0 (.map []) rfl own0.out (by decide) _ _ _ rfl rfl Hkey.out _ [] (plainElem_int Try.underlying24 hi) ?_; intro w1 hown1 hgrow1))
  refine bodyPost_end (v := .tuple #[]) (by simp [results, Try.results14, go_sem]) rfl ⟨rfl, ?_, ?_⟩
  · exact ((((Below.refl B _).setCell hGB _).setCell HI.out.hB _).alloc (by simpa using hB) _).grown hgrow1 (by simp; omega) (fun k e => by cases e; exact hB)
  · obtain rfl := HE.out
    obtain rfl := HE2.out
    have h := HI.out
    obtain ⟨es, cl, em, _⟩ := own0.out
    have gm := grown_map em hgrow1
    have e1 : (w'.setCell ⟨G (i / 4096), i % 4096 * 8 + 6, none⟩ (.int .u8 (bits .or .u8 f 16))).heap[bp]? = some (.cells rcs 58 (0, 0)) := by rw [heap_setCell_other _ _ _ _ n3]; exact h.rd
    have e2 := heap_setCell_same _ bp 19 _ _ (.map (some w'.heap.size)) e1
    refine ⟨rcs.setIfInBounds 19 (.map (some w'.heap.size)), w'.heap.size, h.hB, gm _ _ _ ?_, by simpa using h.sz, ?_, ?_, .inr ⟨_, rfl, hB, hown1⟩, by rw [List.length_set]; omega, by rw [List.length_set]; exact h.n1, by rw [List.length_set]; exact h.n2, h.nv, ?_⟩
    · rw [Below.heap_alloc _ _ _ (by simpa using l1)]; exact e2
    · rw [Array.getElem?_setIfInBounds, if_neg (by omega)]; exact h.r18
    · have := h.sz; simp [this]
    · refine (((h.ti.flag h.n2 Hr.out (by decide) _).setOther e1 (by decide) (by decide) (by decide) _).alloc _).keepCells fun b cs t e _ => gm b cs t e
end Go.Proofs.Qxb6609232a.T
