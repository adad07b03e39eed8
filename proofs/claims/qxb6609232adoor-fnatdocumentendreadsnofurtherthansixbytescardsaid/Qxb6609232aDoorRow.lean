import Derived.Test.Qxb6609232aDoorMain
import Derived.Test.Qxb6609232aDoorTie
import Derived.Test.Qxb6609232aDoorCards
import Derived.ProofKit
import Derived.OpenShut
import Derived.OpenVars
import Derived.ShutString
import Derived.LaidMore
import Derived.Stop.Joined
import Derived.SevenTiedAt
namespace Go.Proofs.Qxb6609232aDoor.Str
open Go.ChangeShapes Go.WideShapes Go.ChangeAt Go.RowKit Go.WideElems
open Go.ChangeMaps (open_string shut_string)
set_option linter.unusedVariables false
abbrev laid1 : List (String × DataW Unit) := Rows.fnAtDocumentEndIsEndLineRow.laid
theorem own : ownKnob Tryd.prog.godebug = none := by kernel_rfl
theorem laidOut : laidOutB Tryd.prog = true := by kernel_rfl
theorem tTab : (Tryd.prog.globals[0]?).map (·.type) = some 49 := by kernel_rfl
theorem laid_list {H : Type} : Rows.laid_example_com_kindcheck_kindcheck_internal_document_mayBeginBreak (H := H) = .agg ((List.range 256).map fun b => .lit (.bool (tbl b))) := by kernel_rfl
theorem c4 : Tryd.prog.cellsOf 4 = 1 := by kernel_rfl
/-- The door's own heap meets the condition. -/
theorem door_met (os : Os) (args : Array Value) : laidMetH Tryd.prog laid1 ((World.doorLaid Tryd.prog 1000 os).forCall (fun _ _ => 0) ⟨#[], args, []⟩).memory :=
  laidMetH_of_parts3 (fuel := 8) (laidMet_of_run' 8 (by kernel_rfl) (by kernel_rfl)) (by kernel_rfl) (by kernel_rfl)
theorem tab_of_laid {W : World} (h : laidMetH Tryd.prog laid1 W) : Tab W := by
  rw [MakeChecks.laidMetH_plain _ _ _ (by kernel_rfl)] at h
  obtain ⟨ps, ⟨g0, t0, cs0, f0, p0, q0, hg0, ht0, hv0, hd0, _⟩, _, _⟩ := h
  obtain rfl : 0 = g0 := Option.some.inj (Eq.trans (by kernel_rfl) hg0)
  obtain rfl := Option.some.inj (tTab.symm.trans ht0)
  obtain ⟨xs, m1, rfl, hx1, hlen, hn, hel⟩ := DataW.trod_array Tryd.underlying49 hd0
  rw [laid_list] at hx1
  simp only [Prod.mk.injEq, DataW.agg.injEq] at hx1
  intro b hb
  have hb' : b < xs.length := by omega
  have h1 := hel b hb
  rw [c4, List.getElem?_eq_getElem hb'] at h1
  obtain ⟨v, e1, e2⟩ := DataW.trod_bool Tryd.underlying4 h1
  have h2 : (xs.map (·.1))[b]? = some (.lit (.bool (tbl b))) := by
    rw [← hx1.1, List.getElem?_map, List.getElem?_range hb]; rfl
  rw [List.getElem?_map, List.getElem?_eq_getElem hb', e2] at h2
  simp only [Option.map_some, Option.some.injEq, DataW.lit.injEq, Lit.bool.injEq] at h2
  have h3 := World.var?_cell hg0 hv0 b
  rw [h3, ← h2]
  have e3 : (cs0.toList.drop b)[0]? = some (.bool v) := by
    have : ((cs0.toList.drop (b * 1)).take 1)[0]? = some (.bool v) := by rw [e1]; rfl
    rw [Nat.mul_one] at this
    rw [List.getElem?_take] at this
    simpa using this
  rw [List.getElem?_drop, Nat.add_zero] at e3
  simpa using e3

/-! ### the post of a law: true; all else as it was -/
section
variable {H : Type} {enc : TypeId × Value → H} {P : Program}
theorem trodAll_below (hl : laidOutB P = true) {W W' : World} (hb : Below W.heap.size W W') :
    ∀ {ts : List TypeId} {vs : List Value} {ds : List (DataW H)} {ps : List MemPlace}, (∀ t ∈ ts, P.readableRec t = true ∧ t < P.types.size) →
      DataW.TrodAll enc P W 0 (fun _ => true) true ts vs ds ps → (∀ x ∈ ps, x.block < W.heap.size) → DataW.TrodAll enc P W' 0 (fun b => decide (b < W.heap.size)) true ts vs ds ps
  | [], [], [], _, _, h, _ => h
  | [], [], _ :: _, _, _, h, _ => h.elim
  | [], _ :: _, _, _, _, h, _ => h.elim
  | _ :: _, [], _, _, _, h, _ => h.elim
  | _ :: _, _ :: _, [], _, _, h, _ => h.elim
  | t :: ts, v :: vs, d :: ds, ps, hr, h, hlt => by
    obtain ⟨p, q, h1, h2, rfl⟩ := h
    have ht := hr t (by simp)
    exact ⟨p, q, Below.trod hl ht.1 ht.2 h1 hb (fun x hx => hlt x (by simp [hx])), trodAll_below hl hb (fun t ht => hr t (by simp [ht])) h2 (fun x hx => hlt x (by simp [hx])), rfl⟩
theorem law_post {f : Func} {s : ChangeSpec} {tb : TypeId} {W W' : World} {args : Array Value} {ds gs : List (DataW H)} {before : List MemPlace}
    (hl : laidOutB P = true) (hrd : ∀ t ∈ f.params.toList, P.readableRec t = true ∧ t < P.types.size) (hvr : varsRowed P s.vars = true) (hres : f.resultTypes = #[tb]) (htb : P.underlying tb = some .bool)
    (hW : DataW.Whole enc P f.params.toList s.vars false W args.toList ds gs before) (hb : Below W.heap.size W W')
    (hfn : s.fn H (ds ++ gs) = { results := [.lit (.bool true)], args := ds, vars := gs }) :
    s.post enc P f false true false false W args (.bool true) W' := by
  have hlt := hW.lt
  have hW' := hW
  obtain ⟨p, q, hA, hV, rfl, _, _⟩ := hW
  refine ⟨ds, gs, p ++ q, [], p, q, hW', ?_, ?_, ?_, hb.frame _, fun h => by cases h⟩
  · rw [hfn, hres]; exact trodAll_mk1 (shut_bool htb _)
  · rw [hfn]; exact trodAll_below hl hb hrd hA (fun x hx => hlt x (by simp [hx]))
  · rw [hfn]; exact Below.trodVars hl hb hvr hV
end

theorem cells31 : Tryd.prog.cellsOf 31 = 2 := by kernel_rfl
theorem c3 : Tryd.prog.cellsOf 3 = 1 := by kernel_rfl
theorem c9 : Tryd.prog.cellsOf 9 = 1 := by kernel_rfl
/-- the pointer argument: nil, or it leads to a line and a message -/
theorem open_refuse {H : Type} {enc : TypeId × Value → H} {W : World} {base : Nat} {v : Value} {d : DataW H} {ps : List MemPlace} (hval : Value.okWide Tryd.prog W .any base 28 v) (hd : DataW.Trod enc Tryd.prog W 0 (fun _ => true) true 28 v d ps) :
    v = .pointer none ∨ ∃ b off line msg, v = .pointer (some ⟨b, off, none⟩) ∧ W.cell? ⟨b, off, none⟩ = some (.int .i64 line) ∧ W.cell? ⟨b, off + 1, none⟩ = some (.string msg) ∧ msg.size ≤ maxLen := by
  rcases open_ptr Tryd.underlying28 (by rw [cells31]; omega) hval hd with ⟨h, _, _⟩ | ⟨b, off, cs, y, fuel, rfl, rfl, rfl, hlen, hcell, hy⟩
  · exact Or.inl h
  · right
    obtain ⟨y0, y1, n, rfl, hl, h0, h1⟩ := trod_struct2 Tryd.underlying31 hy
    rw [cells31] at hlen hcell
    simp only [c3, c9] at h0 h1
    obtain ⟨line, e0, _⟩ := DataW.trod_int Tryd.underlying3 h0
    obtain ⟨msg, e1, _, hm⟩ := DataW.trod_string Tryd.underlying9 h1
    have g0 := hcell 0 (by omega)
    have g1 := hcell 1 (by omega)
    refine ⟨b, off, line, msg, rfl, ?_, ?_, hm⟩
    · rw [Nat.add_zero] at g0; rw [g0]
      have := congrArg (fun l => l[0]?) e0
      simpa [List.getElem?_take] using this
    · rw [g1]
      have := congrArg (fun l => l[0]?) e1
      simpa [List.getElem?_take] using this

theorem vars_one {H : Type} {enc : TypeId × Value → H} {P : Program} {W : World} {sp : Nat → Bool} {n : String} {gs : List (DataW H)} {q : List MemPlace} (h : DataW.TrodVars enc P W sp [n] gs q) : ∃ g, gs = [g] := by
  match gs, h with
  | [g], _ => exact ⟨g, rfl⟩
  | [], h => exact h.elim
  | _ :: _ :: _, ⟨_, _, _, _, _, _, _, _, _, _, h, _⟩ => exact h.elim
end Go.Proofs.Qxb6609232aDoor.Str
