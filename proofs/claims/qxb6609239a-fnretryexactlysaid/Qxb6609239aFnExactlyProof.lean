import Derived.Test.Qxb6609239aRows
import Derived.Test.Qxb6609239aFive
import Derived.Test.Qxb6609239aOpen
import Derived.ProofKit
import Derived.OpenShut
import Derived.OpenVars
import Derived.Carry
namespace Go.Proofs.Qxb6609239a.fnRetryExactly
open Go.ChangeShapes Go.WideShapes Go.ChangeAt Go.RowKit Go.WideElems Go.Proofs.Qxb6609239a.R
set_option linter.unusedVariables false
theorem own : ownKnob Try.prog.godebug = none := by kernel_rfl
theorem laidOut : laidOutB Try.prog = true := by kernel_rfl
/-! ### the post of a law: true; all else as it was -/
section
variable {H : Type} {enc : TypeId × Value → H} {P : Program}
theorem trodAll_below (hl : laidOutB P = true) {W W' : World} (hb : Below W.heap.size W W') :
    ∀ {ts : List TypeId} {vs : List Value} {ds : List (DataW H)} {ps : List MemPlace}, (∀ t ∈ ts, P.readableRec t = true ∧ t < P.types.size) →
      DataW.TrodAll enc P W 0 (fun _ => true) true ts vs ds ps → (∀ x ∈ ps, x.block < W.heap.size) → DataW.TrodAll enc P W' 0 (fun b => decide (b < W.heap.size)) true ts vs ds ps
  | [], [], [], _, _, h, _ => h
  | [], [], _ :: _, _, _, h, _ => h.elim
  | [], _ :: _, _, _, _, h, _ => h.elim
  | _ :: _, [], _, _, _, h, _ => h.elim
  | _ :: _, _ :: _, [], _, _, h, _ => h.elim
  | t :: ts, v :: vs, d :: ds, ps, hr, h, hlt => by
    obtain ⟨p, q, h1, h2, rfl⟩ := h
    have ht := hr t (by simp)
    exact ⟨p, q, Below.trod hl ht.1 ht.2 h1 hb (fun x hx => hlt x (by simp [hx])), trodAll_below hl hb (fun t ht => hr t (by simp [ht])) h2 (fun x hx => hlt x (by simp [hx])), rfl⟩
theorem law_post {f : Func} {s : ChangeSpec} {tb : TypeId} {W W' : World} {args : Array Value} {ds gs : List (DataW H)} {before : List MemPlace}
    (hl : laidOutB P = true) (hrd : ∀ t ∈ f.params.toList, P.readableRec t = true ∧ t < P.types.size) (hvr : varsRowed P s.vars = true) (hres : f.resultTypes = #[tb]) (htb : P.underlying tb = some .bool)
    (hW : DataW.Whole enc P f.params.toList s.vars false W args.toList ds gs before) (hb : Below W.heap.size W W')
    (hfn : s.fn H (ds ++ gs) = { results := [.lit (.bool true)], args := ds, vars := gs }) :
    s.post enc P f false true false false W args (.bool true) W' := by
  have hlt := hW.lt
  have hW' := hW
  obtain ⟨p, q, hA, hV, rfl, _, _⟩ := hW
  refine ⟨ds, gs, p ++ q, [], p, q, hW', ?_, ?_, ?_, hb.frame _, fun h => by cases h⟩
  · rw [hfn, hres]; exact trodAll_mk1 (shut_bool htb _)
  · rw [hfn]; exact trodAll_below hl hb hrd hA (fun x hx => hlt x (by simp [hx]))
  · rw [hfn]; exact Below.trodVars hl hb hvr hV
end
theorem rd1 : ∀ t ∈ Try.f5.params.toList, Try.prog.readableRec t = true ∧ t < Try.prog.types.size := by
  have h : (Try.f5.params.toList.all fun t => Try.prog.readableRec t && decide (t < Try.prog.types.size)) = true := by kernel_rfl
  intro t ht
  have := List.all_eq_true.1 h t ht
  simpa using this
set_option maxRecDepth 100000 in
theorem lifted (os : Os) (started : os.Started) (H : Type) (enc : TypeId × Value → H) :
    ReturnsInHanded {} Try.checked os 5 .any (Rows.fnRetryExactlySpec.pre6 enc Try.prog Try.f5 Rows.fnRetryExactlyRow.domain false) (Rows.fnRetryExactlySpec.post enc Try.prog Try.f5 false true false false) := by
  refine returnsInHanded_of_change (C := Try.checked) own started (by kernel_rfl) Try.func5
    (ChangeSpec.witness6 (enc := enc) (C := Try.checked) false ⟨#[], #[.slice none 0 0, .slice none 0 0, .slice none 0 0, .slice none 0 0], []⟩ 8 (by kernel_rfl) (by kernel_rfl) (by kernel_rfl) (by kernel_rfl)) ?_
  intro W base args ds gs before hval0 hW hcnd _
  have hval : ∀ (j : Nat) t v, Try.f5.params[j]? = some t → args[j]? = some v → Value.okWide Try.prog W .any base t v := hval0
  have hW' := hW
  obtain ⟨p, q, hA0, hV, rfl, hfz, hnd⟩ := hW
  have hA : DataW.TrodAll enc Try.prog W 0 (fun _ => true) true Try.f5.params.toList args.toList ds p := hA0
  rw [Try.params5] at hA hval
  obtain ⟨v0, v1, v2, v3, d0, d1, d2, d3, p0, p1, p2, p3, rfl, rfl, _, h0, h1, h2, h3⟩ := trodAll_four hA
  obtain ⟨rfl, rfl⟩ := trodVars_none hV
  obtain ⟨al, lad, lb, loff, lcap, rfl, hal, nl⟩ := open_ns h0 (okWide_slice Try.underlying30 (hval 0 30 v0 rfl rfl))
  obtain ⟨sns, sad, sb, soff, scap, rfl, hsn, ns⟩ := open_ns h1 (okWide_slice Try.underlying30 (hval 1 30 v1 rfl rfl))
  obtain ⟨dss, dad, db, doff, dcap, rfl, hds, nd⟩ := open_ds h2 (okWide_slice Try.underlying31 (hval 2 31 v2 rfl rfl))
  obtain ⟨ts, ad, b, off, cap, rfl, ht, hk⟩ := open_ts h3 (okWide_slice Try.underlying32 (hval 3 32 v3 rfl rfl))
  refine (law5 al sns dss ts lad sad dad ad lcap scap dcap cap lb loff sb soff db doff b off W hal hsn hds ht (fun t h => (hk t h).1) (fun t h => (hk t h).2) nl ns nd).mono fun e W' ⟨he, hb⟩ => ?_
  subst he
  exact ⟨_, rfl, law_post laidOut rd1 (by kernel_rfl) (by kernel_rfl) Try.underlying4 hW' hb rfl⟩
theorem over : Rows.fnRetryExactlyRow.holds Try.pinned (OpenSpec.ofChange Rows.fnRetryExactlySpec) :=
  OpenClaim.holds_of_wide 5 Try.f5 rfl rfl rfl rfl rfl rfl rfl ⟨rfl, rfl, rfl, rfl, rfl⟩ rfl rfl rfl rfl rfl (by kernel_rfl) Try.func5 (by kernel_rfl)
    (of_decide_eq_true (by kernel_rfl)) (by unfold Func.isWrapper; first | (rw [if_pos (by decide +kernel)]; kernel_rfl) | (rw [if_neg (by decide +kernel)]; exact ⟨rfl, rfl⟩))
    (fun os started H enc _ => lifted os started H enc)
theorem proved : Rows.FnRetryExactlySaid :=
  over
#print axioms proved
end Go.Proofs.Qxb6609239a.fnRetryExactly
