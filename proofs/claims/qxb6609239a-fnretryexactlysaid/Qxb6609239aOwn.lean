import Derived.Test.Qxb6609239aAtt16
import Derived.Deep.AppendLies
import Derived.Laws.OwnMore
namespace Go.Proofs.Qxb6609239a.R
open Go.RowKit
set_option linter.unusedVariables false
theorem info9 : (Try.prog.info? 9).map (fun i => (i.zero, i.size, i.bytes)) = some (some (.string ⟨#[]⟩), 1, 16) := by kernel_rfl
theorem info3 : (Try.prog.info? 3).map (fun i => (i.zero, i.size, i.bytes)) = some (some (.int .i64 0), 1, 8) := by kernel_rfl
theorem make0 {t e : TypeId} {z : Value} {size bytes : Nat} (ht : Try.prog.underlying t = some (.slice e)) (hi : (Try.prog.info? e).map (fun i => (i.zero, i.size, i.bytes)) = some (some z, size, bytes)) (hb : bytes ≤ 4096) (n : Nat) (hn : n ≤ 1048576) :
    ∃ Z : Array Value, Z.size = n * size ∧ ∀ w : World, (Instr.makeSlice t (.int .i64 0) (.int .i64 (n : Int))).run Try.prog w = .ok (.slice (some ⟨w.heap.size, 0, none⟩) 0 n) (w.alloc (.cells Z e)) := by
  obtain ⟨i0, hi0, hz0, hz1, hz2⟩ := info_parts hi
  refine ⟨madeCells z.cells (n * size), size_madeCells _ _, fun w => ?_⟩
  have hm : i0.bytes * n ≤ 4096 * 1048576 := Nat.mul_le_mul (by omega) hn
  have := run_make (P := Try.prog) w t e i0 _ ht hi0 hz0 .i64 .i64 0 (n : Int) (by omega) (by omega) (bytes_le (by omega)) (by omega)
  rw [hz1] at this
  simpa using this
/-- the old blocks are as they were -/
def Kep (w W : World) : Prop := ∀ b, b < w.heap.size → W.heap[b]? = w.heap[b]?
theorem Old.kep {w W : World} (h : Old w W) : Kep w W := fun b hb => Below.block h b hb
theorem Kep.cell {w W : World} (h : Kep w W) {b i : Nat} {sp} {v : Value} (hb : w.cell? ⟨b, i, sp⟩ = some v) : W.cell? ⟨b, i, sp⟩ = some v := by
  have := h b (cell_lt hb)
  exact (World.cell?_of_block (w := w) (w' := W) (a := ⟨b, i, sp⟩) this).trans hb
theorem Kep.heap {w W : World} (h : Kep w W) {b : Nat} {o : Obj} (hb : w.heap[b]? = some o) : W.heap[b]? = some o := (h b (lt_of_some hb)).trans hb
theorem Row.kep {α : Type} {w w' : World} {sz : Nat} {cl : α → Array Value} {xs : List α} {ad : Option Addr} {b off : Nat} (h : Row w sz cl xs ad b off) (ho : Kep w w') : Row w' sz cl xs ad b off :=
  ⟨h.at_, fun k x hx f v hv => ho.cell (h.cell k x hx f v hv)⟩
theorem TOK.kep {w w' : World} {t : TR} (h : TOK w t) (ho : Kep w w') : TOK w' t :=
  ⟨fun b o e => ho.cell (h.m b o e), fun b o e f v hv => ho.cell (h.n b o e f v hv), fun b o e => ho.cell (h.d b o e), fun b o e => ho.cell (h.p b o e), fun b o e => ho.cell (h.ac b o e)⟩
theorem AOK.kep {w w' : World} {a : Nat × TR} (h : AOK w a) (ho : Kep w w') : AOK w' a := ⟨fun f v hv => ho.cell (h.cell f v hv), h.tok.kep ho⟩
/-- a slice of the call's own, at block g -/
structure O (w : World) (H : Nat) (e : TypeId) (g n cap : Nat) (xs : List Value) : Prop where
  own : w.ownsRow H e 1 (.slice (some ⟨g, 0, none⟩) n cap) n xs
theorem O.blk {w : World} {H : Nat} {e : TypeId} {g n cap : Nat} {xs : List Value} (h : O w H e g n cap xs) : H ≤ g ∧ g < w.heap.size := h.own.lt g rfl
theorem O.of {w W : World} {H : Nat} {e : TypeId} {g n cap : Nat} {xs : List Value} (h : O w H e g n cap xs) (hk : W.heap[g]? = w.heap[g]?) : O W H e g n cap xs := by
  refine ⟨h.own.1, ?_⟩
  rcases h.own.2 with ⟨h1, _⟩ | ⟨g', cap', cur, h1, h2, h3, h4⟩
  · cases h1
  · cases h1
    exact .inr ⟨g, cap, cur, rfl, h2, hk.trans h3, h4⟩
theorem O.kep {w W : World} {H : Nat} {e : TypeId} {g n cap : Nat} {xs : List Value} (h : O w H e g n cap xs) (hk : Kep w W) : O W H e g n cap xs := h.of (hk g h.blk.2)
theorem O.cell {w : World} {H : Nat} {e : TypeId} {g n cap : Nat} {xs : List Value} (h : O w H e g n cap xs) {j : Nat} {v : Value} (hv : xs[j]? = some v) : w.cell? ⟨g, j, none⟩ = some v := by
  have hj := (List.getElem?_eq_some_iff.1 hv).1
  have hl := h.own.1
  exact (h.own.cellAt j (by omega)).trans hv
theorem O.len {w : World} {H : Nat} {e : TypeId} {g n cap : Nat} {xs : List Value} (h : O w H e g n cap xs) : xs.length = n := by have := h.own.1; omega
theorem O.made {w : World} {H : Nat} {e : TypeId} {Z : Array Value} {N : Nat} (hb : H ≤ w.heap.size) (hm : N ≤ 1048576) (hs : Z.size = N * 1) : O (w.alloc (.cells Z e)) H e w.heap.size 0 N [] :=
  ⟨World.ownsRow_made w Z N hb (by unfold maxLen; omega) hs⟩
theorem O.full {w : World} {H : Nat} {e : TypeId} {g : Nat} {cur : Array Value} (hg : w.heap[g]? = some (.cells cur e (0, 0))) (hb : H ≤ g) (hm : cur.size ≤ 1048576) {n : Nat} (hn : cur.size = n) : O w H e g n n cur.toList := by
  subst hn
  refine ⟨by simp, .inr ⟨g, cur.size, cur, rfl, hb, hg, Nat.le_refl _, by unfold maxLen; omega, by omega, ?_⟩⟩
  rw [Nat.mul_one, ← Array.length_toList, List.take_length]
/-- all but block g is as it was -/
def Sep (g : Nat) (w W : World) : Prop := ∀ b, b < w.heap.size → b ≠ g → W.heap[b]? = w.heap[b]?
theorem Old.sep {w W : World} (g : Nat) (h : Old w W) : Sep g w W := fun b hb _ => Below.block h b hb
theorem sep_of_grown {w W : World} {g : Nat} (h : w.grownBy W (some g)) : Sep g w W := fun b hb hne => h.block b hb (fun e => hne (by cases e; rfl))
theorem Old.grown {a w W : World} {g : Nat} (h : Old a w) (hg : w.grownBy W (some g)) (hge : a.heap.size ≤ g) : Old a W :=
  ⟨hg.os.trans (Below.os h), hg.tape.trans (Below.tape h), hg.output.trans (Below.output h), Nat.le_trans (Below.size h) hg.size, fun b hb => (hg.block b (Nat.lt_of_lt_of_le hb (Below.size h)) (fun e => by cases e; omega)).trans (Below.block h b hb)⟩
/-- P holds wherever all but block g is as in w -/
def Rob (g : Nat) (w : World) (P : World → Prop) : Prop := ∀ W, Sep g w W → P W
theorem Rob.use {g : Nat} {w W : World} {P : World → Prop} (h : Rob g w P) (ho : Old w W) : P W := h W (ho.sep g)
theorem Rob.step {g g' : Nat} {w w' : World} {P : World → Prop} (h : Rob g w P) (hs : Sep g w w') (hz : w.heap.size ≤ w'.heap.size) (hg : g' = g ∨ w.heap.size ≤ g') : Rob g' w' P := fun W hW => h W fun b hb hne => by
  rcases hg with rfl | hge
  · exact (hW b (by omega) hne).trans (hs b hb hne)
  · exact (hW b (by omega) (by omega)).trans (hs b hb hne)
theorem Rob.old {g : Nat} {w w' : World} {P : World → Prop} (h : Rob g w P) (ho : Old w w') : Rob g w' P := h.step (ho.sep g) ho.size (.inl rfl)
theorem Rob.and {g : Nat} {w : World} {P Q : World → Prop} (h : Rob g w P) (k : Rob g w Q) : Rob g w fun W => P W ∧ Q W := fun W hW => ⟨h W hW, k W hW⟩
end Go.Proofs.Qxb6609239a.R
