import Derived.Test.Qxb6609232aDoorRow
import Derived.Test.Qxb6609232aDoorTwo
namespace Go.Proofs.Qxb6609232aDoor.Two
open Go.ChangeShapes Go.WideShapes Go.ChangeAt Go.RowKit Go.WideElems Go.Proofs.Qxb6609232aDoor.Str
open Go.ChangeMaps (open_string shut_string)
set_option linter.unusedVariables false
theorem rd1 : ∀ t ∈ Tryd.f6.params.toList, Tryd.prog.readableRec t = true ∧ t < Tryd.prog.types.size := by
  have h : (Tryd.f6.params.toList.all fun t => Tryd.prog.readableRec t && decide (t < Tryd.prog.types.size)) = true := by kernel_rfl
  intro t ht
  have := List.all_eq_true.1 h t ht
  simpa using this
set_option maxRecDepth 100000 in
theorem lifted (os : Os) (started : os.Started) (H : Type) (enc : TypeId × Value → H) :
    ReturnsInHanded {} Tryd.checked os 6 .any (fun w args => (Rows.fnAtDocumentEndReadsNoFurtherThanSixBytesSpec.pre enc Tryd.prog Tryd.f6 [] false w args ∧ laidMetH Tryd.prog laid1 w) ∧ sizedMet enc Tryd.prog Tryd.f6 (OpenSpec.ofChange Rows.fnAtDocumentEndReadsNoFurtherThanSixBytesSpec) false w args)
      (Rows.fnAtDocumentEndReadsNoFurtherThanSixBytesSpec.post enc Tryd.prog Tryd.f6 false true false false) := by
  refine returnsInHanded_of_change_and (C := Tryd.checked) (X := fun w _ => laidMetH Tryd.prog laid1 w) (fun _ _ _ hh h => h.of_heap hh) own started (by kernel_rfl) Tryd.func6
    (ChangeSpec.witness_shaped (enc := enc) (C := Tryd.checked) (os := os) (X := fun w _ => laidMetH Tryd.prog laid1 w) false (World.doorLaid Tryd.prog 1000 os) #[.string ⟨#[]⟩, .pointer none, .int .i64 0, .int .i64 0] 8 rfl (World.shaped_of_RefB (by kernel_rfl) (by kernel_rfl)) (by kernel_rfl) (by kernel_rfl) (by kernel_rfl) (door_met os _)) ?_
  intro W base args ds gs before hval0 hW _ _ hL _
  have hval : ∀ (j : Nat) t v, Tryd.f6.params[j]? = some t → args[j]? = some v → Value.okWide Tryd.prog W .any base t v := hval0
  have hW' := hW
  obtain ⟨p, q, hA0, hV, rfl, hfz, hnd⟩ := hW
  have hA : DataW.TrodAll enc Tryd.prog W 0 (fun _ => true) true Tryd.f6.params.toList args.toList ds p := hA0
  rw [Tryd.params6] at hA hval
  obtain ⟨v0, v1, v2, v3, d0, d1, d2, d3, p0, p1, p2, p3, rfl, rfl, rfl, h0, h1, h2, h3⟩ := trodAll_four hA
  obtain ⟨s, rfl, rfl, rfl, ws⟩ := open_string Tryd.underlying9 (hval 0 9 v0 rfl rfl) h0
  obtain ⟨pos, rfl, rfl, rfl, w2⟩ := open_int Tryd.underlying3 (hval 2 3 v2 rfl rfl) h2
  obtain ⟨la, rfl, rfl, rfl, w3⟩ := open_int Tryd.underlying3 (hval 3 3 v3 rfl rfl) h3
  have hT := tab_of_laid hL
  obtain ⟨g1, rfl⟩ := vars_one hV
  have fin : ∀ (a : Array Value) (e : Ending) (W' : World), a = #[.string s, v1, .int .i64 pos, .int .i64 la] → e = .returned (.bool true) ∧ Below W.heap.size W W' → ∃ v, e = .returned v ∧ Rows.fnAtDocumentEndReadsNoFurtherThanSixBytesSpec.post enc Tryd.prog Tryd.f6 false true false false W #[.string s, v1, .int .i64 pos, .int .i64 la] v W' := by
    rintro a e W' rfl ⟨rfl, hb⟩
    exact ⟨_, rfl, law_post laidOut rd1 (by kernel_rfl) (by kernel_rfl) Tryd.underlying4 hW' hb rfl⟩
  rcases open_refuse (hval 1 28 v1 rfl rfl) h1 with rfl | ⟨b, off, line, msg, rfl, g0, g1, hm⟩
  · exact (two_none s pos la W ws hT).mono fun e W' h => fin _ e W' rfl h
  · exact (two_some s msg b off line pos la W ws hm g0 g1 hT).mono fun e W' h => fin _ e W' rfl h
theorem over : Rows.FnAtDocumentEndReadsNoFurtherThanSixBytesSaid :=
  OpenClaim.holds_of_wide 6 Tryd.f6 rfl rfl rfl rfl rfl rfl rfl ⟨rfl, rfl, rfl, rfl, rfl⟩ rfl rfl rfl rfl rfl (by kernel_rfl) Tryd.func6 (by kernel_rfl)
    (of_decide_eq_true (by kernel_rfl)) (by unfold Func.isWrapper; first | (rw [if_pos (by decide +kernel)]; kernel_rfl) | (rw [if_neg (by decide +kernel)]; exact ⟨rfl, rfl⟩))
    (fun os started H enc _ => lifted os started H enc)
theorem cardTwo : Rows.FnAtDocumentEndReadsNoFurtherThanSixBytesCardSaid :=
  Claim7.holds_tied_plain_at .later [] [.data] true (true, "a4de417e885c8425357eb749a2a30e6a5ee9b036a89a9e5ae15d104d98960f6d") false
    over (fun _ h => by cases h) (by kernel_rfl) (fun _ h => by cases h) fnAtDocumentEndReadsNoFurtherThanSixBytes_row_tie rfl ⟨rfl, rfl⟩ (by kernel_rfl) rfl
    (fun f fn hf hfn => by
      obtain rfl : f = 6 := Option.some.inj ((show Tryd.prog.funcNamed Rows.fnAtDocumentEndReadsNoFurtherThanSixBytesRow.func = some 6 by kernel_rfl).symm.trans hf) |>.symm
      obtain rfl : fn = Tryd.f6 := (Option.some.inj (Tryd.func6.symm.trans hfn)).symm
      exact ⟨by kernel_rfl, fun j t ht => by
        rw [Tryd.params6] at ht
        have hm : t ∈ [9, 28, 3, 3] := by simpa using Array.mem_of_getElem? ht
        have hall : ([9, 28, 3, 3].all fun u => !Tryd.prog.wantsStandIn u) = true := by kernel_rfl
        exact (show Tryd.prog.wantsStandIn t = false by simpa using List.all_eq_true.1 hall t hm)⟩)
    (by kernel_rfl)
#print axioms cardTwo
end Go.Proofs.Qxb6609232aDoor.Two
