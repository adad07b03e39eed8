import Derived.Test.Qxb6609239aOwn
import Derived.Test.Qxb6609239aPlain
import Derived.Test.Qxb6609239aZz
namespace Go.Proofs.Qxb6609239a.R
open Go.RowKit
set_option linter.unusedVariables false
def iv (e : Nat) : Value := .int .i64 (e : Int)
def pv (a : Nat × TR) : Value := .pointer (some ⟨a.1, 0, none⟩)
/-- all but the DNN -/
structure Keep (t t' : TR) : Prop where
  pm : t'.pm.isSome = t.pm.isSome
  m : t'.m = t.m
  ps : t'.ps.isSome = t.ps.isSome
  n : t'.n = t.n
  pp : t'.pp.isSome = t.pp.isSome
  p : t'.p = t.p
  pa : t'.pa.isSome = t.pa.isSome
  ac : t'.ac = t.ac
  ma : t'.ma = t.ma
theorem Like.keep {t t' : TR} (h : Like t t') : Keep t t' := ⟨h.pm, h.m, h.ps, h.n, h.pp, h.p, h.pa, h.ac, h.ma⟩
/-- what the walk over the names leans on, but the attempts -/
structure Sta (al sns : List NS) (ds : List ByteArray) (E : List Nat) (base : TR) (lad : Option Addr) (lb loff : Nat) (sad : Option Addr) (sb soff : Nat) (dad : Option Addr) (db doff : Nat) (xad : Option Addr) (xb xoff : Nat) (H ge ce hb : Nat) (W : World) : Prop where
  ral : Row W 5 NS.cells al lad lb loff
  rsn : Row W 5 NS.cells sns sad sb soff
  rdn : Row W 1 dcl ds dad db doff
  rarg : Row W 1 dcl ds xad xb xoff
  rexp : O W H 3 ge E.length ce (E.map iv)
  rbox : ∀ f v, base.cells[f]? = some v → W.cell? ⟨hb, f, none⟩ = some v
  rtok : TOK W base
theorem Sta.kep {al sns : List NS} {ds : List ByteArray} {E : List Nat} {base : TR} {lad : Option Addr} {lb loff : Nat} {sad : Option Addr} {sb soff : Nat} {dad : Option Addr} {db doff : Nat} {xad : Option Addr} {xb xoff : Nat} {H ge ce hb : Nat} {w W : World}
    (h : Sta al sns ds E base lad lb loff sad sb soff dad db doff xad xb xoff H ge ce hb w) (k : Kep w W) : Sta al sns ds E base lad lb loff sad sb soff dad db doff xad xb xoff H ge ce hb W :=
  ⟨h.ral.kep k, h.rsn.kep k, h.rdn.kep k, h.rarg.kep k, h.rexp.kep k, fun f v hv => k.cell (h.rbox f v hv), h.rtok.kep k⟩
structure Step (w0 : World) (S : World → Prop) (ds A : List ByteArray) (E : List Nat) (base : TR) (s gT cT : Nat) (aa : List (Nat × TR)) (w : World) : Prop where
  own : O w w0.heap.size 69 gT aa.length cT (aa.map pv)
  rob : Rob gT w fun W => S W ∧ ∀ a ∈ aa, AOK W a
  old : Old w0 w
  asked : ∀ d, pD aa d = !isin (FD ds A E s) (fold d)
  last : ∃ m la, aa.length = m + 1 ∧ aa[m]? = some la ∧ Keep base la.2 ∧ la.2.rej = dB
  len : aa.length ≤ 4096 + s
  siz : ∀ a ∈ aa, a.2.dn.size ≤ 1048576
  le : s ≤ E.length
theorem aa_row {w : World} {H gT n cT : Nat} {aa : List (Nat × TR)} (h : O w H 69 gT n cT (aa.map pv)) : Row w 1 acl aa (some ⟨gT, 0, none⟩) gT 0 :=
  ⟨fun _ => rfl, fun k x hx f v hv => by
    have hf : f = 0 := by have := (Array.getElem?_eq_some_iff.1 hv).1; simp at this; omega
    subst hf
    have hv' : pv x = v := by simpa [pv] using hv
    have := h.cell (j := k) (v := v) (by rw [List.getElem?_map, hx, ← hv']; rfl)
    simpa using this⟩
theorem pD_snoc (aa : List (Nat × TR)) (a : Nat × TR) (d : ByteArray) : pD (aa ++ [a]) d = (pD aa d && !askD a.2 d) := by
  unfold pD; rw [List.any_append]; simp
theorem isin_snoc (A : List ByteArray) (x f : ByteArray) : isin (A ++ [x]) f = (isin A f || decide (x = f)) := by
  unfold isin; rw [List.any_append]; simp
theorem any_like {ts : List TR} {aa : List (Nat × TR)} (hl : aa.length = ts.length) (h : ∀ (j : Nat) a t, aa[j]? = some a → ts[j]? = some t → Like t a.2) (d : ByteArray) : aa.any (fun a => askD a.2 d) = ts.any (fun t => askD t d) := by
  rw [Bool.eq_iff_iff, List.any_eq_true, List.any_eq_true]
  constructor
  · rintro ⟨x, hx, hp⟩
    obtain ⟨j, hj, rfl⟩ := List.mem_iff_getElem.1 hx
    have hj' : j < ts.length := by omega
    have L := h j _ _ (List.getElem?_eq_getElem hj) (List.getElem?_eq_getElem hj')
    refine ⟨ts[j], List.getElem_mem hj', ?_⟩
    unfold askD at hp ⊢; rw [← L.pd, ← L.dn]; exact hp
  · rintro ⟨x, hx, hp⟩
    obtain ⟨j, hj, rfl⟩ := List.mem_iff_getElem.1 hx
    have hj' : j < aa.length := by omega
    have L := h j _ _ (List.getElem?_eq_getElem hj') (List.getElem?_eq_getElem hj)
    refine ⟨aa[j], List.getElem_mem hj', ?_⟩
    unfold askD at hp ⊢; rw [L.pd, L.dn]; exact hp
theorem Step.start {w0 wd wt : World} {S : World → Prop} {ds : List ByteArray} {E : List Nat} {base : TR} {ts : List TR} {cur : Array Value} {aa : List (Nat × TR)} {m : Nat} (hS : S wd) (hk : ∀ w W, S w → Kep w W → S W) (ho : Old w0 wd) (h : AS wd ts ts.length cur aa wt) (hm : ts.length = m + 1) (hb : ts[m]? = some base) (hr : base.rej = dB) (hl : ts.length ≤ 4096) (hz : ∀ t ∈ ts, t.dn.size ≤ 1048576) :
    Step w0 S ds (asks ts) E base 0 wd.heap.size ts.length aa wt := by
  have hlen := h.len
  have hcur : cur.toList = aa.map pv := by
    refine List.ext_getElem? fun j => ?_
    rw [List.getElem?_map, Array.getElem?_toList]
    cases hj : aa[j]? with
    | none =>
      have : aa.length ≤ j := List.getElem?_eq_none_iff.1 hj
      rw [Array.getElem?_eq_none (by rw [h.size]; omega)]; rfl
    | some a => rw [h.cell j a hj]; rfl
  have lk : ∀ (j : Nat) a, aa[j]? = some a → ∃ t, ts[j]? = some t ∧ Like t a.2 := fun j a ha => by
    have hj := (List.getElem?_eq_some_iff.1 ha).1
    exact ⟨_, List.getElem?_eq_getElem (by omega), h.like j a _ ha (List.getElem?_eq_getElem (by omega))⟩
  refine ⟨?_, fun W hW => ⟨hk wd W hS fun b hb => ?_, fun a ha => h.ok a ha W fun b h1 h2 => hW b h2 (by omega)⟩, ho.trans h.old, fun d => ?_, ?_, by omega, fun a ha => ?_, Nat.zero_le _⟩
  · have := O.full (H := w0.heap.size) h.heap ho.size (by rw [h.size]; omega) (n := ts.length) h.size
    rw [hcur] at this
    rw [hlen]; exact this
  · exact (hW b (by have := h.old.size; omega) (by omega)).trans (Below.block h.old b hb)
  · unfold pD FD
    rw [any_like hlen h.like d, asks_any]; simp
  · obtain ⟨la, hla⟩ : ∃ la, aa[m]? = some la := ⟨_, List.getElem?_eq_getElem (by omega)⟩
    have L := h.like m la base hla hb
    exact ⟨m, la, by omega, hla, L.keep, by rw [L.rej, hr]⟩
  · obtain ⟨j, hj, rfl⟩ := List.mem_iff_getElem.1 ha
    obtain ⟨t, ht, L⟩ := lk j _ (List.getElem?_eq_getElem hj)
    rw [L.dn]; exact hz t (List.mem_of_getElem? ht)
/-- one step further -/
theorem Step.next {w0 w w2 w3 : World} {S : World → Prop} {ds A : List ByteArray} {E : List Nat} {base : TR} {s gT cT g2 c2 gn e : Nat} {aa : List (Nat × TR)} {t2 : TR} {d : ByteArray} (h : Step w0 S ds A E base s gT cT aa w)
    (hE : E[s]? = some e) (hd : ds[e]? = some d) (ho : Old w w2) (hn : w2.heap[gn]? = some (.cells t2.cells 68 (0, 0))) (hg : gn ≠ gT) (htk : Rob gT w2 fun W => TOK W t2) (hk : Keep base t2) (hr : t2.rej = dB) (hpd : t2.pd.isSome = true) (hdn : t2.dn = d) (hsz : d.size ≤ 1048576)
    (hown : w3.ownsRow w0.heap.size 69 1 (.slice (some ⟨g2, 0, none⟩) (aa.length + 1) c2) (aa.length + 1) (aa.map pv ++ [.pointer (some ⟨gn, 0, none⟩)])) (hgr : w2.grownBy w3 (some gT)) (hat : gT = g2 ∨ w2.heap.size ≤ g2) :
    Step w0 S ds A E base (s + 1) g2 c2 (aa ++ [(gn, t2)]) w3 := by
  have hb := h.own.blk
  have hsl := (List.getElem?_eq_some_iff.1 hE).1
  have hlen := h.len
  have rb : Rob gT w2 fun W => S W ∧ ∀ a ∈ aa ++ [(gn, t2)], AOK W a := fun W hW => by
    obtain ⟨h1, h2⟩ := h.rob.old ho W hW
    refine ⟨h1, fun a ha => ?_⟩
    rcases List.mem_append.1 ha with h3 | h3
    · exact h2 a h3
    · rw [List.mem_singleton] at h3
      subst h3
      exact ⟨fun f v hv => (cell_of_row _ _ f _ _ _ ((hW _ (lt_of_some hn) hg).trans hn)).trans hv, htk W hW⟩
  refine ⟨⟨?_⟩, rb.step (sep_of_grown hgr) hgr.size ?_, (h.old.trans ho).grown hgr hb.1, fun x => ?_, ⟨aa.length, (gn, t2), by simp, by simp, hk, hr⟩, by simp; omega, fun a ha => ?_, by omega⟩
  · rw [List.length_append, List.map_append]; exact hown
  · rcases hat with h1 | h1
    · exact .inl h1.symm
    · exact .inr h1
  · rw [pD_snoc, h.asked, FD_succ hE, isin_snoc, fd_of hd]
    unfold askD
    rw [hpd, hdn]; simp
  · rcases List.mem_append.1 ha with h3 | h3
    · exact h.siz a h3
    · rw [List.mem_singleton] at h3
      subst h3
      show t2.dn.size ≤ _
      rw [hdn]; exact hsz
/-- what ZZretry is handed there -/
theorem Step.env {w0 w W : World} {al sns : List NS} {ds A : List ByteArray} {E : List Nat} {base : TR} {lad : Option Addr} {lb loff lcap : Nat} {sad : Option Addr} {sb soff : Nat} {dad : Option Addr} {db doff : Nat} {xad : Option Addr} {xb xoff : Nat} {H ge ce hb : Nat} {s gT cT bs : Nat} {aa : List (Nat × TR)}
    (h : Step w0 (Sta al sns ds E base lad lb loff sad sb soff dad db doff xad xb xoff H ge ce hb) ds A E base s gT cT aa w) (ho : Old w W) (hbs : W.cell? ⟨bs, 0, none⟩ = some (.slice lad al.length lcap))
    (l1 : al.length ≤ 4096) (l2 : sns.length ≤ 4096) (l3 : ds.length ≤ 4096) (l4 : s ≤ 4096) (hz : ∀ d ∈ ds, d.size ≤ 1048576) :
    Env W al sns ds aa bs lad lb loff lcap sad sb soff dad db doff (some ⟨gT, 0, none⟩) gT 0 := by
  obtain ⟨h1, h2⟩ := h.rob.use ho
  have hl := h.len
  exact ⟨h1.ral, by omega, hbs, h1.rsn, by omega, h1.rdn, by omega, hz, (aa_row h.own).old ho, by omega, h2, h.siz⟩
theorem Step.got13 {w0 w : World} {al sns : List NS} {ds A : List ByteArray} {E : List Nat} {base : TR} {lad : Option Addr} {lb loff lcap : Nat} {sad : Option Addr} {sb soff scap : Nat} {dad : Option Addr} {db doff dcap : Nat} {xad : Option Addr} {xb xoff : Nat} {H ge ce hb : Nat} {s gT cT : Nat} {aa : List (Nat × TR)}
    (h : Step w0 (Sta al sns ds E base lad lb loff sad sb soff dad db doff xad xb xoff H ge ce hb) ds A E base s gT cT aa w)
    (l1 : al.length ≤ 4096) (l2 : sns.length ≤ 4096) (l3 : ds.length ≤ 4096) (l4 : s ≤ 4096) (hz : ∀ d ∈ ds, d.size ≤ 1048576) (hX : Exp ds A ds.length E) {e : Nat} {d : ByteArray} (hE : E[s]? = some e) (hd : ds[e]? = some d) {m : Nat} {la : Nat × TR} (hm : aa.length = m + 1) (hla : aa[m]? = some la) (hr : la.2.rej = dB) :
    Calls Try.prog 13 #[.slice lad al.length lcap, .slice sad sns.length scap, .slice dad ds.length dcap, .slice (some ⟨gT, 0, none⟩) aa.length cT] w fun x w' => ∃ q, x = .returned (.pointer q) ∧ ∃ g, q = some ⟨g, 0, none⟩ ∧ w'.heap[g]? = some (.cells (rq (withD la.2 (db, doff + e) d)) 59 (0, 0)) ∧ w.heap.size ≤ g ∧ Old w w' := by
  refine zz13 lad sad dad (some ⟨gT, 0, none⟩) al.length lcap sns.length scap ds.length dcap aa.length cT w _ ?_
  have o1 := (Old.refl w).alloc (.cells (s86 (.slice lad al.length lcap)) 86)
  refine (r30D al sns ds aa w.heap.size lad lb loff lcap sad sb soff scap dad db doff dcap gT 0 cT _ (h.env o1 (alloc_row 0 _ rfl) l1 l2 l3 l4 hz) m hm la hla hr e (hX.found hE h.asked) d hd).mono ?_
  rintro x w' ⟨g, rfl, hg, _, hge, ho⟩
  exact ⟨_, rfl, g, rfl, hg, by have := o1.size; omega, o1.trans ho⟩
theorem Step.nil13 {w0 w : World} {al sns : List NS} {ds A : List ByteArray} {E : List Nat} {base : TR} {lad : Option Addr} {lb loff lcap : Nat} {sad : Option Addr} {sb soff scap : Nat} {dad : Option Addr} {db doff dcap : Nat} {xad : Option Addr} {xb xoff : Nat} {H ge ce hb : Nat} {gT cT : Nat} {aa : List (Nat × TR)}
    (h : Step w0 (Sta al sns ds E base lad lb loff sad sb soff dad db doff xad xb xoff H ge ce hb) ds A E base E.length gT cT aa w)
    (l1 : al.length ≤ 4096) (l2 : sns.length ≤ 4096) (l3 : ds.length ≤ 4096) (l4 : E.length ≤ 4096) (hz : ∀ d ∈ ds, d.size ≤ 1048576) (hX : Exp ds A ds.length E) :
    Calls Try.prog 13 #[.slice lad al.length lcap, .slice sad sns.length scap, .slice dad ds.length dcap, .slice (some ⟨gT, 0, none⟩) aa.length cT] w fun x w' => ∃ q, x = .returned (.pointer q) ∧ q = none ∧ Old w w' := by
  obtain ⟨m, la, hm, hla, _, hr⟩ := h.last
  refine zz13 lad sad dad (some ⟨gT, 0, none⟩) al.length lcap sns.length scap ds.length dcap aa.length cT w _ ?_
  have o1 := (Old.refl w).alloc (.cells (s86 (.slice lad al.length lcap)) 86)
  refine (r30Dn al sns ds aa w.heap.size lad lb loff lcap sad sb soff scap dad db doff dcap gT 0 cT _ (h.env o1 (alloc_row 0 _ rfl) l1 l2 l3 l4 hz) m hm la hla hr (hX.none h.asked)).mono ?_
  rintro x w' ⟨rfl, ho⟩
  exact ⟨_, rfl, rfl, o1.trans ho⟩
end Go.Proofs.Qxb6609239a.R
