import Derived.Test.Qxb6609232aLaw
import Derived.Test.Qxb6609232aRows
import Derived.Deep.Slices
import Derived.OpenVars
/-
  The argument, opened.
-/
namespace Go.Proofs.Qxb6609232a.T
open Go.Deep Go.RowKit Go.ChangeShapes Go.WideShapes Go.ChangeAt Go.WideElems
set_option linter.unusedVariables false
theorem len15 : ∀ {l : List Value}, l.length = 15 → ∃ c0 c1 c2 c3 c4 c5 c6 c7 c8 c9 c10 c11 c12 c13 c14, l = [c0, c1, c2, c3, c4, c5, c6, c7, c8, c9, c10, c11, c12, c13, c14]
  | [c0, c1, c2, c3, c4, c5, c6, c7, c8, c9, c10, c11, c12, c13, c14], _ => ⟨c0, c1, c2, c3, c4, c5, c6, c7, c8, c9, c10, c11, c12, c13, c14, rfl⟩
theorem c26 : Try.prog.cellsOf 26 = 15 := by kernel_rfl
theorem c24 : Try.prog.cellsOf 24 = 1 := by kernel_rfl
theorem c5 : Try.prog.cellsOf 5 = 1 := by kernel_rfl
theorem c3 : Try.prog.cellsOf 3 = 1 := by kernel_rfl
theorem c9 : Try.prog.cellsOf 9 = 1 := by kernel_rfl
theorem c4 : Try.prog.cellsOf 4 = 1 := by kernel_rfl
section
variable {H : Type} {enc : TypeId × Value → H} {w : World} {base : Nat} {spare : Nat → Bool} {held : Bool}
theorem step_of {fuel : Nat} {cs : List Value} {x : DataW H × List MemPlace} (h : DataW.trod enc Try.prog w base spare held fuel 26 cs = some x) : ∃ s : Step, cs = s.cells ∧ s.a.size ≤ maxLen := by
  obtain ⟨xs, n, _, _, hlen, hxl, hf⟩ := DataW.trod_struct Try.underlying26 h
  rw [c26] at hlen
  have hxl' : xs.length = 15 := hxl
  obtain ⟨k0, k1, k2, k3, k4, k5, k6, k7, k8, k9, k10, k11, k12, k13, k14, rfl⟩ := len15 hlen
  have g : ∀ i, i < 15 → ∃ y, xs[i]? = some y := fun i hi => ⟨_, List.getElem?_eq_getElem (by omega)⟩
  obtain ⟨y0, e0⟩ := g 0 (by decide)
  obtain ⟨y1, e1⟩ := g 1 (by decide)
  obtain ⟨y2, e2⟩ := g 2 (by decide)
  obtain ⟨y3, e3⟩ := g 3 (by decide)
  obtain ⟨y4, e4⟩ := g 4 (by decide)
  obtain ⟨y5, e5⟩ := g 5 (by decide)
  obtain ⟨y6, e6⟩ := g 6 (by decide)
  obtain ⟨y7, e7⟩ := g 7 (by decide)
  obtain ⟨y8, e8⟩ := g 8 (by decide)
  obtain ⟨y9, e9⟩ := g 9 (by decide)
  obtain ⟨y10, e10⟩ := g 10 (by decide)
  obtain ⟨y11, e11⟩ := g 11 (by decide)
  obtain ⟨y12, e12⟩ := g 12 (by decide)
  obtain ⟨y13, e13⟩ := g 13 (by decide)
  obtain ⟨y14, e14⟩ := g 14 (by decide)
  have h0 : DataW.trod enc Try.prog w base spare held n 24 (([k0, k1, k2, k3, k4, k5, k6, k7, k8, k9, k10, k11, k12, k13, k14].drop 0).take (Try.prog.cellsOf 24)) = some y0 := (hf 0 _ rfl).trans e0
  have h1 : DataW.trod enc Try.prog w base spare held n 24 (([k0, k1, k2, k3, k4, k5, k6, k7, k8, k9, k10, k11, k12, k13, k14].drop 1).take (Try.prog.cellsOf 24)) = some y1 := (hf 1 _ rfl).trans e1
  have h2 : DataW.trod enc Try.prog w base spare held n 24 (([k0, k1, k2, k3, k4, k5, k6, k7, k8, k9, k10, k11, k12, k13, k14].drop 2).take (Try.prog.cellsOf 24)) = some y2 := (hf 2 _ rfl).trans e2
  have h3 : DataW.trod enc Try.prog w base spare held n 24 (([k0, k1, k2, k3, k4, k5, k6, k7, k8, k9, k10, k11, k12, k13, k14].drop 3).take (Try.prog.cellsOf 24)) = some y3 := (hf 3 _ rfl).trans e3
  have h4 : DataW.trod enc Try.prog w base spare held n 5 (([k0, k1, k2, k3, k4, k5, k6, k7, k8, k9, k10, k11, k12, k13, k14].drop 4).take (Try.prog.cellsOf 5)) = some y4 := (hf 4 _ rfl).trans e4
  have h5 : DataW.trod enc Try.prog w base spare held n 5 (([k0, k1, k2, k3, k4, k5, k6, k7, k8, k9, k10, k11, k12, k13, k14].drop 5).take (Try.prog.cellsOf 5)) = some y5 := (hf 5 _ rfl).trans e5
  have h6 : DataW.trod enc Try.prog w base spare held n 5 (([k0, k1, k2, k3, k4, k5, k6, k7, k8, k9, k10, k11, k12, k13, k14].drop 6).take (Try.prog.cellsOf 5)) = some y6 := (hf 6 _ rfl).trans e6
  have h7 : DataW.trod enc Try.prog w base spare held n 5 (([k0, k1, k2, k3, k4, k5, k6, k7, k8, k9, k10, k11, k12, k13, k14].drop 7).take (Try.prog.cellsOf 5)) = some y7 := (hf 7 _ rfl).trans e7
  have h8 : DataW.trod enc Try.prog w base spare held n 3 (([k0, k1, k2, k3, k4, k5, k6, k7, k8, k9, k10, k11, k12, k13, k14].drop 8).take (Try.prog.cellsOf 3)) = some y8 := (hf 8 _ rfl).trans e8
  have h9 : DataW.trod enc Try.prog w base spare held n 3 (([k0, k1, k2, k3, k4, k5, k6, k7, k8, k9, k10, k11, k12, k13, k14].drop 9).take (Try.prog.cellsOf 3)) = some y9 := (hf 9 _ rfl).trans e9
  have h10 : DataW.trod enc Try.prog w base spare held n 9 (([k0, k1, k2, k3, k4, k5, k6, k7, k8, k9, k10, k11, k12, k13, k14].drop 10).take (Try.prog.cellsOf 9)) = some y10 := (hf 10 _ rfl).trans e10
  have h11 : DataW.trod enc Try.prog w base spare held n 5 (([k0, k1, k2, k3, k4, k5, k6, k7, k8, k9, k10, k11, k12, k13, k14].drop 11).take (Try.prog.cellsOf 5)) = some y11 := (hf 11 _ rfl).trans e11
  have h12 : DataW.trod enc Try.prog w base spare held n 4 (([k0, k1, k2, k3, k4, k5, k6, k7, k8, k9, k10, k11, k12, k13, k14].drop 12).take (Try.prog.cellsOf 4)) = some y12 := (hf 12 _ rfl).trans e12
  have h13 : DataW.trod enc Try.prog w base spare held n 4 (([k0, k1, k2, k3, k4, k5, k6, k7, k8, k9, k10, k11, k12, k13, k14].drop 13).take (Try.prog.cellsOf 4)) = some y13 := (hf 13 _ rfl).trans e13
  have h14 : DataW.trod enc Try.prog w base spare held n 4 (([k0, k1, k2, k3, k4, k5, k6, k7, k8, k9, k10, k11, k12, k13, k14].drop 14).take (Try.prog.cellsOf 4)) = some y14 := (hf 14 _ rfl).trans e14
  rw [c24] at h0 h1 h2 h3
  rw [c5] at h4 h5 h6 h7 h11
  rw [c3] at h8 h9
  rw [c9] at h10
  rw [c4] at h12 h13 h14
  obtain ⟨r0, q0, _⟩ := DataW.trod_int Try.underlying24 h0
  obtain ⟨r1, q1, _⟩ := DataW.trod_int Try.underlying24 h1
  obtain ⟨r2, q2, _⟩ := DataW.trod_int Try.underlying24 h2
  obtain ⟨r3, q3, _⟩ := DataW.trod_int Try.underlying24 h3
  obtain ⟨r4, q4, _⟩ := DataW.trod_int Try.underlying5 h4
  obtain ⟨r5, q5, _⟩ := DataW.trod_int Try.underlying5 h5
  obtain ⟨r6, q6, _⟩ := DataW.trod_int Try.underlying5 h6
  obtain ⟨r7, q7, _⟩ := DataW.trod_int Try.underlying5 h7
  obtain ⟨r8, q8, _⟩ := DataW.trod_int Try.underlying3 h8
  obtain ⟨r9, q9, _⟩ := DataW.trod_int Try.underlying3 h9
  obtain ⟨a, q10, _, ha⟩ := DataW.trod_string Try.underlying9 h10
  obtain ⟨r11, q11, _⟩ := DataW.trod_int Try.underlying5 h11
  obtain ⟨r12, q12, _⟩ := DataW.trod_bool Try.underlying4 h12
  obtain ⟨r13, q13, _⟩ := DataW.trod_bool Try.underlying4 h13
  obtain ⟨r14, q14, _⟩ := DataW.trod_bool Try.underlying4 h14
  refine ⟨⟨r0, r1, r2, r3, r4, r5, r6, r7, r8, r9, a, r11, r12, r13, r14⟩, ?_, ha⟩
  simp at q0 q1 q2 q3 q4 q5 q6 q7 q8 q9 q10 q11 q12 q13 q14
  subst q0 q1 q2 q3 q4 q5 q6 q7 q8 q9 q10 q11 q12 q13 q14
  rfl
/-- the slice: its elements -/
theorem open_steps {v : Value} {d : DataW H} {ps : List MemPlace} (hd : DataW.Trod enc Try.prog w base spare held 22 v d ps) (hv : ∃ a len cap, v = .slice a len cap) :
    ∃ (ss : List Step) (ad : Option Addr) (b off cap : Nat), v = .slice ad ss.length cap ∧ Arg w ss ad b off ∧ ss.length ≤ maxLen := by
  obtain ⟨ad, len, cap, rfl⟩ := hv
  obtain ⟨fuel, h⟩ := hd
  rcases open_slice Try.underlying22 h with ⟨e, _⟩ | ⟨a, len', cap', m, n, D, Pl, e, hb, hl, hm, hmm, _, hx⟩
  · simp [Value.cells] at e
    obtain ⟨rfl, rfl, rfl⟩ := e
    exact ⟨[], none, 0, 0, 0, rfl, ⟨fun h => absurd h (Nat.lt_irrefl 0), fun k s hs => by (simp at hs), fun k s hs => by (simp at hs)⟩, Nat.zero_le _⟩
  · simp [Value.cells] at e
    obtain ⟨rfl, rfl, rfl⟩ := e
    have hlm : len ≤ m := by rw [hmm]; split <;> omega
    rw [c26] at hx
    have hstep : ∀ i, i < len → ∃ s : Step, w.cells? base (a.add (i * 15)) 15 = some s.cells ∧ s.a.size ≤ maxLen := fun i hi => by
      obtain ⟨cs', h1, h2⟩ := hx i (by omega)
      obtain ⟨s, rfl, hs⟩ := step_of h2
      exact ⟨s, h1, hs⟩
    obtain ⟨S, hS⟩ : ∃ S : Nat → Step, ∀ i, i < len → w.cells? base (a.add (i * 15)) 15 = some (S i).cells ∧ (S i).a.size ≤ maxLen := by
      refine ⟨fun i => if h : i < len then (hstep i h).choose else ⟨0, 0, 0, 0, 0, 0, 0, 0, 0, 0, ⟨#[]⟩, 0, false, false, false⟩, fun i hi => ?_⟩
      dsimp only
      rw [dif_pos hi]; exact (hstep i hi).choose_spec
    obtain ⟨b, off, spot⟩ := a
    refine ⟨(List.range len).map S, some ⟨b, off, spot⟩, b, off, cap, by simp, ⟨fun hp => ?_, fun k s hs f v hv => ?_, fun k s hs => ?_⟩, by simp; omega⟩
    · have hp' : 0 < len := by simpa using hp
      obtain ⟨_, _, hc⟩ := World.cells?_some (hS 0 hp').1
      have := hc 0 (by decide)
      have hspot : spot = none := by
        have e2 : (S 0).cells[0]? = some (.int .u32 (S 0).r0) := rfl
        rw [e2] at this
        simpa [Addr.add] using World.cell?_spot this
      rw [hspot]
    · have hk : k < len := by
        have := (List.getElem?_eq_some_iff.1 hs).1; simpa using this
      rw [List.getElem?_map, List.getElem?_range hk] at hs
      simp at hs; subst hs
      obtain ⟨_, _, hc⟩ := World.cells?_some (hS k hk).1
      have hf : f < 15 := (List.getElem?_eq_some_iff.1 hv).1
      have h3 := hc f hf
      rw [hv] at h3
      have hspot : spot = none := by
        obtain ⟨_, _, hc0⟩ := World.cells?_some (hS 0 (by omega)).1
        have h0 := hc0 0 (by decide)
        have e2 : (S 0).cells[0]? = some (.int .u32 (S 0).r0) := rfl
        rw [e2] at h0
        simpa [Addr.add] using World.cell?_spot h0
      subst hspot
      rw [add_plain, add_plain] at h3
      exact h3
    · have hk : k < len := by
        have := (List.getElem?_eq_some_iff.1 hs).1; simpa using this
      rw [List.getElem?_map, List.getElem?_range hk] at hs
      simp at hs; subst hs
      exact (hS k hk).2
end
end Go.Proofs.Qxb6609232a.T
