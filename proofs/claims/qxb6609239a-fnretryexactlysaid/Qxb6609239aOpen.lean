import Derived.Test.Qxb6609239aAsked
import Derived.Test.Qxb6609239aMake
import Derived.Test.Qxb6609239aRows
import Derived.Deep.Slices
import Derived.OpenVars
import Derived.OpenShut
/-
  The arguments, opened.
-/
namespace Go.Proofs.Qxb6609239a.R
open Go.Deep Go.RowKit Go.ChangeShapes Go.WideShapes Go.ChangeAt Go.WideElems
set_option linter.unusedVariables false
theorem len5 : ∀ {l : List Value}, l.length = 5 → ∃ c0 c1 c2 c3 c4, l = [c0, c1, c2, c3, c4]
  | [c0, c1, c2, c3, c4], _ => ⟨c0, c1, c2, c3, c4, rfl⟩
theorem len9 : ∀ {l : List Value}, l.length = 9 → ∃ c0 c1 c2 c3 c4 c5 c6 c7 c8, l = [c0, c1, c2, c3, c4, c5, c6, c7, c8]
  | [c0, c1, c2, c3, c4, c5, c6, c7, c8], _ => ⟨c0, c1, c2, c3, c4, c5, c6, c7, c8, rfl⟩
theorem n51 : Try.prog.cellsOf 51 = 5 := by kernel_rfl
theorem n47 : Try.prog.cellsOf 47 = 9 := by kernel_rfl
theorem n5 : Try.prog.cellsOf 5 = 1 := by kernel_rfl
theorem n49 : Try.prog.cellsOf 49 = 3 := by kernel_rfl
theorem n4 : Try.prog.cellsOf 4 = 1 := by kernel_rfl
theorem n9 : Try.prog.cellsOf 9 = 1 := by kernel_rfl
theorem n43 : Try.prog.cellsOf 43 = 1 := by kernel_rfl
theorem n44 : Try.prog.cellsOf 44 = 1 := by kernel_rfl
theorem n45 : Try.prog.cellsOf 45 = 1 := by kernel_rfl
section
variable {H : Type} {enc : TypeId × Value → H} {w : World} {base : Nat} {spare : Nat → Bool} {held : Bool}
theorem ns_of {fuel : Nat} {cs : List Value} {x : DataW H × List MemPlace} (h : DataW.trod enc Try.prog w base spare held fuel 51 cs = some x) : ∃ n : NS, cs = n.cells.toList := by
  obtain ⟨xs, n, _, _, hlen, hxl, hf⟩ := DataW.trod_struct Try.underlying51 h
  rw [n51] at hlen
  have hxl' : xs.length = 3 := hxl
  obtain ⟨k0, k1, k2, k3, k4, rfl⟩ := len5 hlen
  have g : ∀ i, i < 3 → ∃ y, xs[i]? = some y := fun i hi => ⟨_, List.getElem?_eq_getElem (by omega)⟩
  obtain ⟨y0, e0⟩ := g 0 (by decide)
  obtain ⟨y1, e1⟩ := g 1 (by decide)
  obtain ⟨y2, e2⟩ := g 2 (by decide)
  have h0 : DataW.trod enc Try.prog w base spare held n 5 (([k0, k1, k2, k3, k4].drop 0).take (Try.prog.cellsOf 5)) = some y0 := (hf 0 _ rfl).trans e0
  have h1 : DataW.trod enc Try.prog w base spare held n 49 (([k0, k1, k2, k3, k4].drop 1).take (Try.prog.cellsOf 49)) = some y1 := (hf 1 _ rfl).trans e1
  have h2 : DataW.trod enc Try.prog w base spare held n 4 (([k0, k1, k2, k3, k4].drop 4).take (Try.prog.cellsOf 4)) = some y2 := (hf 2 _ rfl).trans e2
  rw [n5] at h0
  rw [n49] at h1
  rw [n4] at h2
  obtain ⟨r0, q0, _⟩ := DataW.trod_int Try.underlying5 h0
  obtain ⟨r4, q4, _⟩ := DataW.trod_bool Try.underlying4 h2
  obtain ⟨xa, m, _, _, _, hal, ha⟩ := DataW.trod_array Try.underlying49 h1
  have hcc : Try.prog.cellsOf 5 = 1 := n5
  generalize Try.prog.cellsOf 5 = c at ha hcc
  subst hcc
  have ga : ∀ i, i < 3 → ∃ y, xa[i]? = some y := fun i hi => ⟨_, List.getElem?_eq_getElem (by omega)⟩
  obtain ⟨z0, f0⟩ := ga 0 (by decide)
  obtain ⟨z1, f1⟩ := ga 1 (by decide)
  obtain ⟨z2, f2⟩ := ga 2 (by decide)
  have t0 : DataW.trod enc Try.prog w base spare held m 5 (((([k0, k1, k2, k3, k4].drop 1).take 3).drop (0 * 1)).take 1) = some z0 := (ha 0 (by decide)).trans f0
  have t1 : DataW.trod enc Try.prog w base spare held m 5 (((([k0, k1, k2, k3, k4].drop 1).take 3).drop (1 * 1)).take 1) = some z1 := (ha 1 (by decide)).trans f1
  have t2 : DataW.trod enc Try.prog w base spare held m 5 (((([k0, k1, k2, k3, k4].drop 1).take 3).drop (2 * 1)).take 1) = some z2 := (ha 2 (by decide)).trans f2
  obtain ⟨r1, q1, _⟩ := DataW.trod_int Try.underlying5 t0
  obtain ⟨r2, q2, _⟩ := DataW.trod_int Try.underlying5 t1
  obtain ⟨r3, q3, _⟩ := DataW.trod_int Try.underlying5 t2
  refine ⟨⟨r0, r1, r2, r3, r4⟩, ?_⟩
  simp at q0 q1 q2 q3 q4
  subst q0 q1 q2 q3 q4
  rfl
theorem str_of {fuel : Nat} {cs : List Value} {x : DataW H × List MemPlace} (h : DataW.trod enc Try.prog w base spare held fuel 9 cs = some x) : ∃ s : ByteArray, cs = (dcl s).toList := by
  obtain ⟨s, q, _, _⟩ := DataW.trod_string Try.underlying9 h
  exact ⟨s, q⟩
theorem ptr8_of {fuel : Nat} {c : Value} {x : DataW H × List MemPlace} (h : DataW.trod enc Try.prog w base spare held fuel 43 [c] = some x) : ∃ (p : Option (Nat × Nat)) (m : Int), c = ptr p ∧ ∀ b o, p = some (b, o) → w.cell? ⟨b, o, none⟩ = some (.int .u8 m) := by
  rcases DataW.trod_pointer Try.underlying43 h with ⟨e, _⟩ | ⟨a, cs', y, n, _, e, _, hc, ht⟩
  · simp at e; subst e
    exact ⟨none, 0, rfl, fun b o h => by cases h⟩
  · simp at e; subst e
    rw [n5] at hc
    obtain ⟨m, rfl, _⟩ := DataW.trod_int Try.underlying5 ht
    obtain ⟨_, _, hh⟩ := World.cells?_some hc
    have h0 := hh 0 (by decide)
    obtain ⟨b, off, spot⟩ := a
    have hs : spot = none := by simpa [Addr.add] using World.cell?_spot h0
    subst hs
    rw [add_plain] at h0
    exact ⟨some (b, off), m, rfl, fun b' o' h => by cases h; exact h0⟩
theorem ptrS_of {fuel : Nat} {c : Value} {x : DataW H × List MemPlace} (h : DataW.trod enc Try.prog w base spare held fuel 45 [c] = some x) : ∃ (p : Option (Nat × Nat)) (m : ByteArray), c = ptr p ∧ (∀ b o, p = some (b, o) → w.cell? ⟨b, o, none⟩ = some (.string m)) ∧ (p = none → m.size ≤ 1048576) := by
  rcases DataW.trod_pointer Try.underlying45 h with ⟨e, _⟩ | ⟨a, cs', y, n, _, e, _, hc, ht⟩
  · simp at e; subst e
    exact ⟨none, ⟨#[]⟩, rfl, fun b o h => (by cases h), fun _ => (by decide)⟩
  · simp at e; subst e
    rw [n9] at hc
    obtain ⟨m, rfl, _⟩ := DataW.trod_string Try.underlying9 ht
    obtain ⟨_, _, hh⟩ := World.cells?_some hc
    have h0 := hh 0 (by decide)
    obtain ⟨b, off, spot⟩ := a
    have hs : spot = none := by simpa [Addr.add] using World.cell?_spot h0
    subst hs
    rw [add_plain] at h0
    exact ⟨some (b, off), m, rfl, fun b' o' h => (by cases h; exact h0), fun h => (by cases h)⟩
theorem ptrN_of {fuel : Nat} {c : Value} {x : DataW H × List MemPlace} (h : DataW.trod enc Try.prog w base spare held fuel 44 [c] = some x) : ∃ (p : Option (Nat × Nat)) (n : NS), c = ptr p ∧ ∀ b o, p = some (b, o) → ∀ f v, n.cells[f]? = some v → w.cell? ⟨b, o + f, none⟩ = some v := by
  rcases DataW.trod_pointer Try.underlying44 h with ⟨e, _⟩ | ⟨a, cs', y, n, _, e, _, hc, ht⟩
  · simp at e; subst e
    exact ⟨none, ⟨0, 0, 0, 0, false⟩, rfl, fun b o h => by cases h⟩
  · simp at e; subst e
    rw [n51] at hc
    obtain ⟨m, rfl⟩ := ns_of ht
    obtain ⟨_, _, hh⟩ := World.cells?_some hc
    have h0 := hh 0 (by decide)
    obtain ⟨b, off, spot⟩ := a
    have hs : spot = none := by simpa [Addr.add] using World.cell?_spot h0
    subst hs
    refine ⟨some (b, off), m, rfl, fun b' o' h f v hv => ?_⟩
    cases h
    have hf : f < 5 := (Array.getElem?_eq_some_iff.1 hv).1
    have h3 := hh f hf
    rw [add_plain] at h3
    exact h3.trans (by rw [Array.getElem?_toList]; exact hv)
theorem try_of {fuel : Nat} {cs : List Value} {x : DataW H × List MemPlace} (h : DataW.trod enc Try.prog w base spare held fuel 47 cs = some x) : ∃ t : TR, cs = t.cells.toList ∧ TOK w t ∧ (t.pd = none → t.dn.size ≤ 1048576) := by
  obtain ⟨xs, n, _, _, hlen, hxl, hf⟩ := DataW.trod_struct Try.underlying47 h
  rw [n47] at hlen
  have hxl' : xs.length = 9 := hxl
  obtain ⟨k0, k1, k2, k3, k4, k5, k6, k7, k8, rfl⟩ := len9 hlen
  have g : ∀ i, i < 9 → ∃ y, xs[i]? = some y := fun i hi => ⟨_, List.getElem?_eq_getElem (by omega)⟩
  obtain ⟨y0, e0⟩ := g 0 (by decide)
  obtain ⟨y1, e1⟩ := g 1 (by decide)
  obtain ⟨y2, e2⟩ := g 2 (by decide)
  obtain ⟨y3, e3⟩ := g 3 (by decide)
  obtain ⟨y4, e4⟩ := g 4 (by decide)
  obtain ⟨y5, e5⟩ := g 5 (by decide)
  obtain ⟨y6, e6⟩ := g 6 (by decide)
  obtain ⟨y7, e7⟩ := g 7 (by decide)
  obtain ⟨y8, e8⟩ := g 8 (by decide)
  have h0 : DataW.trod enc Try.prog w base spare held n 5 (([k0, k1, k2, k3, k4, k5, k6, k7, k8].drop 0).take (Try.prog.cellsOf 5)) = some y0 := (hf 0 _ rfl).trans e0
  have h1 : DataW.trod enc Try.prog w base spare held n 5 (([k0, k1, k2, k3, k4, k5, k6, k7, k8].drop 1).take (Try.prog.cellsOf 5)) = some y1 := (hf 1 _ rfl).trans e1
  have h2 : DataW.trod enc Try.prog w base spare held n 43 (([k0, k1, k2, k3, k4, k5, k6, k7, k8].drop 2).take (Try.prog.cellsOf 43)) = some y2 := (hf 2 _ rfl).trans e2
  have h3 : DataW.trod enc Try.prog w base spare held n 44 (([k0, k1, k2, k3, k4, k5, k6, k7, k8].drop 3).take (Try.prog.cellsOf 44)) = some y3 := (hf 3 _ rfl).trans e3
  have h4 : DataW.trod enc Try.prog w base spare held n 45 (([k0, k1, k2, k3, k4, k5, k6, k7, k8].drop 4).take (Try.prog.cellsOf 45)) = some y4 := (hf 4 _ rfl).trans e4
  have h5 : DataW.trod enc Try.prog w base spare held n 43 (([k0, k1, k2, k3, k4, k5, k6, k7, k8].drop 5).take (Try.prog.cellsOf 43)) = some y5 := (hf 5 _ rfl).trans e5
  have h6 : DataW.trod enc Try.prog w base spare held n 43 (([k0, k1, k2, k3, k4, k5, k6, k7, k8].drop 6).take (Try.prog.cellsOf 43)) = some y6 := (hf 6 _ rfl).trans e6
  have h7 : DataW.trod enc Try.prog w base spare held n 4 (([k0, k1, k2, k3, k4, k5, k6, k7, k8].drop 7).take (Try.prog.cellsOf 4)) = some y7 := (hf 7 _ rfl).trans e7
  have h8 : DataW.trod enc Try.prog w base spare held n 9 (([k0, k1, k2, k3, k4, k5, k6, k7, k8].drop 8).take (Try.prog.cellsOf 9)) = some y8 := (hf 8 _ rfl).trans e8
  rw [n5] at h0 h1
  rw [n43] at h2 h5 h6
  rw [n44] at h3
  rw [n45] at h4
  rw [n4] at h7
  rw [n9] at h8
  obtain ⟨r0, q0, _⟩ := DataW.trod_int Try.underlying5 h0
  obtain ⟨r1, q1, _⟩ := DataW.trod_int Try.underlying5 h1
  obtain ⟨p2, v2, q2, c2⟩ := ptr8_of h2
  obtain ⟨p3, v3, q3, c3⟩ := ptrN_of h3
  obtain ⟨p4, v4, q4, c4, s4⟩ := ptrS_of h4
  obtain ⟨p5, v5, q5, c5⟩ := ptr8_of h5
  obtain ⟨p6, v6, q6, c6⟩ := ptr8_of h6
  obtain ⟨r7, q7, _⟩ := DataW.trod_bool Try.underlying4 h7
  obtain ⟨r8, q8, _⟩ := DataW.trod_string Try.underlying9 h8
  refine ⟨⟨r0, r1, p2, p3, p4, p5, p6, v2, v3, v4, v5, v6, r7, r8⟩, ?_, ⟨c2, c3, c4, c5, c6⟩, s4⟩
  simp at q0 q1 q7 q8
  subst q0 q1 q2 q3 q4 q5 q6 q7 q8
  rfl
/-- a slice: its elements -/
theorem open_row {α : Type} {t e : TypeId} {sz : Nat} (hz : 0 < sz) (cl : α → Array Value) (Q : α → Prop) (z : α) (ht : Try.prog.underlying t = some (.slice e)) (hc : Try.prog.cellsOf e = sz) (hcl : ∀ s, (cl s).size = sz)
    (hel : ∀ (fuel : Nat) (cs : List Value) (x : DataW H × List MemPlace), DataW.trod enc Try.prog w base spare held fuel e cs = some x → ∃ s : α, cs = (cl s).toList ∧ Q s)
    {v : Value} {d : DataW H} {ps : List MemPlace} (hd : DataW.Trod enc Try.prog w base spare held t v d ps) (hv : ∃ a len cap, v = .slice a len cap) :
    ∃ (ss : List α) (ad : Option Addr) (b off cap : Nat), v = .slice ad ss.length cap ∧ Row w sz cl ss ad b off ∧ (∀ s ∈ ss, Q s) ∧ (ad = none → cap = 0) := by
  obtain ⟨ad, len, cap, rfl⟩ := hv
  obtain ⟨fuel, h⟩ := hd
  rcases open_slice ht h with ⟨e', _⟩ | ⟨a, len', cap', m, n, D, Pl, e', hb, hl, hm, hmm, _, hx⟩
  · simp [Value.cells] at e'
    obtain ⟨rfl, rfl, rfl⟩ := e'
    exact ⟨[], none, 0, 0, 0, rfl, ⟨fun h => absurd h (Nat.lt_irrefl 0), fun k s hs => by (simp at hs)⟩, fun s hs => by simp at hs, fun _ => rfl⟩
  · simp [Value.cells] at e'
    obtain ⟨rfl, rfl, rfl⟩ := e'
    have hlm : len ≤ m := by rw [hmm]; split <;> omega
    rw [hc] at hx
    have hstep : ∀ i, i < len → ∃ s : α, w.cells? base (a.add (i * sz)) sz = some (cl s).toList ∧ Q s := fun i hi => by
      obtain ⟨cs', h1, h2⟩ := hx i (by omega)
      obtain ⟨s, rfl, hs⟩ := hel _ _ _ h2
      exact ⟨s, h1, hs⟩
    obtain ⟨S, hS⟩ : ∃ S : Nat → α, ∀ i, i < len → w.cells? base (a.add (i * sz)) sz = some (cl (S i)).toList ∧ Q (S i) := by
      refine ⟨fun i => if h : i < len then (hstep i h).choose else z, fun i hi => ?_⟩
      dsimp only
      rw [dif_pos hi]; exact (hstep i hi).choose_spec
    obtain ⟨b, off, spot⟩ := a
    have hspot : 0 < len → spot = none := fun hp => by
      obtain ⟨_, _, hcc⟩ := World.cells?_some (hS 0 hp).1
      have h0 := hcc 0 hz
      have e2 : ∃ u, (cl (S 0)).toList[0]? = some u := ⟨_, List.getElem?_eq_getElem (by rw [Array.length_toList, hcl]; exact hz)⟩
      obtain ⟨u, e2⟩ := e2
      rw [e2] at h0
      simpa [Addr.add] using World.cell?_spot h0
    refine ⟨(List.range len).map S, some ⟨b, off, spot⟩, b, off, cap, by simp, ⟨fun hp => ?_, fun k s hs f v hv => ?_⟩, fun s hs => ?_, fun h => by cases h⟩
    · have hp' : 0 < len := by simpa using hp
      rw [hspot hp']
    · have hk : k < len := by
        have := (List.getElem?_eq_some_iff.1 hs).1; simpa using this
      rw [List.getElem?_map, List.getElem?_range hk] at hs
      simp at hs; subst hs
      obtain ⟨_, _, hcc⟩ := World.cells?_some (hS k hk).1
      have hf : f < sz := by rw [← hcl (S k)]; exact (Array.getElem?_eq_some_iff.1 hv).1
      have h3 := hcc f hf
      rw [Array.getElem?_toList, hv] at h3
      have := hspot (by omega)
      subst this
      rw [add_plain, add_plain] at h3
      exact h3
    · rw [List.mem_map] at hs
      obtain ⟨i, hi, rfl⟩ := hs
      exact (hS i (by simpa using hi)).2
theorem open_ns {v : Value} {d : DataW H} {ps : List MemPlace} (hd : DataW.Trod enc Try.prog w base spare held 30 v d ps) (hv : ∃ a len cap, v = .slice a len cap) :
    ∃ (ss : List NS) (ad : Option Addr) (b off cap : Nat), v = .slice ad ss.length cap ∧ Row w 5 NS.cells ss ad b off ∧ (ad = none → cap = 0) := by
  obtain ⟨ss, ad, b, off, cap, h1, h2, _, h4⟩ := open_row (sz := 5) (by decide) NS.cells (fun _ => True) ⟨0, 0, 0, 0, false⟩ Try.underlying30 n51 (fun s => rfl) (fun fuel cs x h => by obtain ⟨n, hn⟩ := ns_of h; exact ⟨n, hn, trivial⟩) hd hv
  exact ⟨ss, ad, b, off, cap, h1, h2, h4⟩
theorem open_ds {v : Value} {d : DataW H} {ps : List MemPlace} (hd : DataW.Trod enc Try.prog w base spare held 31 v d ps) (hv : ∃ a len cap, v = .slice a len cap) :
    ∃ (ss : List ByteArray) (ad : Option Addr) (b off cap : Nat), v = .slice ad ss.length cap ∧ Row w 1 dcl ss ad b off ∧ (ad = none → cap = 0) := by
  obtain ⟨ss, ad, b, off, cap, h1, h2, _, h4⟩ := open_row (sz := 1) (by decide) dcl (fun _ => True) ⟨#[]⟩ Try.underlying31 n9 (fun s => rfl) (fun fuel cs x h => by obtain ⟨n, hn⟩ := str_of h; exact ⟨n, hn, trivial⟩) hd hv
  exact ⟨ss, ad, b, off, cap, h1, h2, h4⟩
theorem open_ts {v : Value} {d : DataW H} {ps : List MemPlace} (hd : DataW.Trod enc Try.prog w base spare held 32 v d ps) (hv : ∃ a len cap, v = .slice a len cap) :
    ∃ (ss : List TR) (ad : Option Addr) (b off cap : Nat), v = .slice ad ss.length cap ∧ Row w 9 TR.cells ss ad b off ∧ (∀ t ∈ ss, TOK w t ∧ (t.pd = none → t.dn.size ≤ 1048576)) := by
  obtain ⟨ss, ad, b, off, cap, h1, h2, h3, _⟩ := open_row (sz := 9) (by decide) TR.cells (fun t => TOK w t ∧ (t.pd = none → t.dn.size ≤ 1048576)) ⟨0, 0, none, none, none, none, none, 0, ⟨0, 0, 0, 0, false⟩, ⟨#[]⟩, 0, 0, false, ⟨#[]⟩⟩ Try.underlying32 n47 (fun s => rfl) (fun fuel cs x h => try_of h) hd hv
  exact ⟨ss, ad, b, off, cap, h1, h2, h3⟩
end
end Go.Proofs.Qxb6609239a.R
