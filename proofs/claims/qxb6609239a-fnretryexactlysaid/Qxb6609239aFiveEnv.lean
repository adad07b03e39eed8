import Derived.Test.Qxb6609239aOwn
import Derived.Test.Qxb6609239aPlain
import Derived.Test.Qxb6609239aZz
namespace Go.Proofs.Qxb6609239a.R
open Go.RowKit
set_option linter.unusedVariables false
theorem AS.row {w wx : World} {ts : List TR} {cur : Array Value} {aa : List (Nat × TR)} (h : AS w ts ts.length cur aa wx) : Row wx 1 acl aa (some ⟨w.heap.size, 0, none⟩) w.heap.size 0 :=
  ⟨fun _ => rfl, fun k x hx f v hv => by
    have hf : f = 0 := by have := (Array.getElem?_eq_some_iff.1 hv).1; simp at this; omega
    subst hf
    have e : (.pointer (some ⟨x.1, 0, none⟩) : Value) = v := by simpa using hv
    have := (cell_of_row _ _ k _ _ _ h.heap).trans (h.cell k x hx)
    rw [e] at this
    simpa using this⟩
theorem like_any {ts : List TR} {aa : List (Nat × TR)} (q : TR → Bool) (hq : ∀ t t', Like t t' → q t' = q t) (hl : aa.length = ts.length) (h : ∀ (j : Nat) a t, aa[j]? = some a → ts[j]? = some t → Like t a.2) : aa.any (fun a => q a.2) = ts.any q := by
  rw [Bool.eq_iff_iff, List.any_eq_true, List.any_eq_true]
  constructor
  · rintro ⟨x, hx, hp⟩
    obtain ⟨j, hj, rfl⟩ := List.mem_iff_getElem.1 hx
    have hj' : j < ts.length := by omega
    have L := h j _ _ (List.getElem?_eq_getElem hj) (List.getElem?_eq_getElem hj')
    exact ⟨ts[j], List.getElem_mem hj', by rw [← hq _ _ L]; exact hp⟩
  · rintro ⟨x, hx, hp⟩
    obtain ⟨j, hj, rfl⟩ := List.mem_iff_getElem.1 hx
    have hj' : j < aa.length := by omega
    have L := h j _ _ (List.getElem?_eq_getElem hj') (List.getElem?_eq_getElem hj)
    exact ⟨aa[j], List.getElem_mem hj', by rw [hq _ _ L]; exact hp⟩
def qN (al : List NS) (ts : List TR) (n : NS) : Bool := al.any (fun x => sameN x n) && !(ts.any fun t => askN t n)
def qD (ts : List TR) (d : ByteArray) : Bool := !(ts.any fun t => askD t d)
theorem qN_eq {w wx : World} {ts : List TR} {cur : Array Value} {aa : List (Nat × TR)} (h : AS w ts ts.length cur aa wx) (al : List NS) : pN al aa = qN al ts := by
  funext n
  unfold pN qN
  rw [like_any (fun t => askN t n) (fun t t' L => by unfold askN; rw [L.ps, L.n]) h.len h.like]
  congr 2
  funext x
  exact sameN_comm n x
theorem qD_eq {w wx : World} {ts : List TR} {cur : Array Value} {aa : List (Nat × TR)} (h : AS w ts ts.length cur aa wx) : pD aa = qD ts := by
  funext d
  unfold pD qD
  rw [like_any (fun t => askD t d) (fun t t' L => by unfold askD; rw [L.pd, L.dn]) h.len h.like]
/-- what ZZretry is handed -/
structure In (al sns : List NS) (ds : List ByteArray) (ts : List TR) (lad : Option Addr) (lb loff : Nat) (sad : Option Addr) (sb soff : Nat) (dad : Option Addr) (db doff : Nat) (g : Nat) (aa : List (Nat × TR)) (w : World) : Prop where
  ral : Row w 5 NS.cells al lad lb loff
  rsn : Row w 5 NS.cells sns sad sb soff
  rdn : Row w 1 dcl ds dad db doff
  raa : Row w 1 acl aa (some ⟨g, 0, none⟩) g 0
  ok : ∀ a ∈ aa, AOK w a
  pn : pN al aa = qN al ts
  pd : pD aa = qD ts
  len : aa.length = ts.length
  like : ∀ (j : Nat) a t, aa[j]? = some a → ts[j]? = some t → Like t a.2
  l1 : al.length ≤ 4096
  l2 : sns.length ≤ 4096
  l3 : ds.length ≤ 4096
  l4 : ts.length ≤ 4096
  dsz : ∀ d ∈ ds, d.size ≤ 1048576
  tsz : ∀ t ∈ ts, t.dn.size ≤ 1048576
section
variable {al sns : List NS} {ds : List ByteArray} {ts : List TR} {lad : Option Addr} {lb loff lcap : Nat} {sad : Option Addr} {sb soff scap : Nat} {dad : Option Addr} {db doff dcap : Nat} {gT cT : Nat} {aa : List (Nat × TR)} {w : World}
theorem In.env (h : In al sns ds ts lad lb loff sad sb soff dad db doff gT aa w) {W : World} {bs : Nat} (ho : Old w W) (hbs : W.cell? ⟨bs, 0, none⟩ = some (.slice lad al.length lcap)) : Env W al sns ds aa bs lad lb loff lcap sad sb soff dad db doff (some ⟨gT, 0, none⟩) gT 0 := by
  have h1 := h.l1
  have h2 := h.l2
  have h3 := h.l3
  have h4 := h.l4
  have h5 := h.len
  refine ⟨h.ral.old ho, by omega, hbs, h.rsn.old ho, by omega, h.rdn.old ho, by omega, h.dsz, h.raa.old ho, by omega, fun a ha => (h.ok a ha).old ho, fun a ha => ?_⟩
  obtain ⟨j, hj, rfl⟩ := List.mem_iff_getElem.1 ha
  have L := h.like j _ _ (List.getElem?_eq_getElem hj) (List.getElem?_eq_getElem (by omega))
  rw [L.dn]; exact h.tsz _ (List.getElem_mem _)
/-- the last attempt -/
theorem In.last (h : In al sns ds ts lad lb loff sad sb soff dad db doff gT aa w) {m : Nat} {base : TR} (hm : ts.length = m + 1) (hb : ts[m]? = some base) : ∃ la, aa[m]? = some la ∧ Like base la.2 ∧ aa.length = m + 1 := by
  have h5 := h.len
  obtain ⟨la, hla⟩ : ∃ la, aa[m]? = some la := ⟨_, List.getElem?_eq_getElem (by omega)⟩
  exact ⟨la, hla, h.like m la base hla hb, by omega⟩
def Nl (w : World) (q : Option Addr) (w' : World) : Prop := q = none ∧ Old w w'
def Gt (w : World) (T : TR → TR) (base : TR) (q : Option Addr) (w' : World) : Prop := ∃ g la, q = some ⟨g, 0, none⟩ ∧ Like base la ∧ w'.heap[g]? = some (.cells (rq (T la)) 59 (0, 0)) ∧ TOK w' (T la) ∧ Old w w'
theorem In.zzD (h : In al sns ds ts lad lb loff sad sb soff dad db doff gT aa w) {m : Nat} {base : TR} (hm : ts.length = m + 1) (hb : ts[m]? = some base) (hr : base.rej = dB) {k : Nat} {d : ByteArray} (hk : idx (qD ts) ds = k) (hd : ds[k]? = some d) :
    Calls Try.prog 13 #[.slice lad al.length lcap, .slice sad sns.length scap, .slice dad ds.length dcap, .slice (some ⟨gT, 0, none⟩) aa.length cT] w fun e w' => ∃ q, e = .returned (.pointer q) ∧ Gt w (fun t => withD t (db, doff + k) d) base q w' := by
  obtain ⟨la, hla, L, hl⟩ := h.last hm hb
  refine zz13 lad sad dad (some ⟨gT, 0, none⟩) al.length lcap sns.length scap ds.length dcap aa.length cT w _ ?_
  have o1 := (Old.refl w).alloc (.cells (s86 (.slice lad al.length lcap)) 86)
  refine (r30D al sns ds aa w.heap.size lad lb loff lcap sad sb soff scap dad db doff dcap gT 0 cT _ (h.env o1 (alloc_row 0 _ rfl)) m hl la hla (by rw [L.rej, hr]) k (by rw [h.pd]; exact hk) d hd).mono ?_
  rintro x w' ⟨g, rfl, hg, ht, _, ho⟩
  exact ⟨_, rfl, g, la.2, rfl, L, hg, ht, o1.trans ho⟩
theorem In.zzS (h : In al sns ds ts lad lb loff sad sb soff dad db doff gT aa w) {m : Nat} {base : TR} (hm : ts.length = m + 1) (hb : ts[m]? = some base) (hr : base.rej = sB) {k : Nat} {n : NS} (hk : idx (qN al ts) sns = k) (hd : sns[k]? = some n) :
    Calls Try.prog 13 #[.slice lad al.length lcap, .slice sad sns.length scap, .slice dad ds.length dcap, .slice (some ⟨gT, 0, none⟩) aa.length cT] w fun e w' => ∃ q, e = .returned (.pointer q) ∧ Gt w (fun t => withN t (sb, soff + k * 5) n) base q w' := by
  obtain ⟨la, hla, L, hl⟩ := h.last hm hb
  refine zz13 lad sad dad (some ⟨gT, 0, none⟩) al.length lcap sns.length scap ds.length dcap aa.length cT w _ ?_
  have o1 := (Old.refl w).alloc (.cells (s86 (.slice lad al.length lcap)) 86)
  refine (r30S al sns ds aa w.heap.size lad lb loff lcap sad sb soff scap dad db doff dcap gT 0 cT _ (h.env o1 (alloc_row 0 _ rfl)) m hl la hla (by rw [L.rej, hr]) k (by rw [h.pn]; exact hk) n hd).mono ?_
  rintro x w' ⟨g, rfl, hg, ht, _, ho⟩
  exact ⟨_, rfl, g, la.2, rfl, L, hg, ht, o1.trans ho⟩
theorem In.zzDn (h : In al sns ds ts lad lb loff sad sb soff dad db doff gT aa w) {m : Nat} {base : TR} (hm : ts.length = m + 1) (hb : ts[m]? = some base) (hr : base.rej = dB) (hk : idx (qD ts) ds = -1) :
    Calls Try.prog 13 #[.slice lad al.length lcap, .slice sad sns.length scap, .slice dad ds.length dcap, .slice (some ⟨gT, 0, none⟩) aa.length cT] w fun e w' => ∃ q, e = .returned (.pointer q) ∧ Nl w q w' := by
  obtain ⟨la, hla, L, hl⟩ := h.last hm hb
  refine zz13 lad sad dad (some ⟨gT, 0, none⟩) al.length lcap sns.length scap ds.length dcap aa.length cT w _ ?_
  have o1 := (Old.refl w).alloc (.cells (s86 (.slice lad al.length lcap)) 86)
  refine (r30Dn al sns ds aa w.heap.size lad lb loff lcap sad sb soff scap dad db doff dcap gT 0 cT _ (h.env o1 (alloc_row 0 _ rfl)) m hl la hla (by rw [L.rej, hr]) (by rw [h.pd]; exact hk)).mono ?_
  rintro x w' ⟨rfl, ho⟩
  exact ⟨_, rfl, rfl, o1.trans ho⟩
theorem In.zzSn (h : In al sns ds ts lad lb loff sad sb soff dad db doff gT aa w) {m : Nat} {base : TR} (hm : ts.length = m + 1) (hb : ts[m]? = some base) (hr : base.rej = sB) (hk : idx (qN al ts) sns = -1) :
    Calls Try.prog 13 #[.slice lad al.length lcap, .slice sad sns.length scap, .slice dad ds.length dcap, .slice (some ⟨gT, 0, none⟩) aa.length cT] w fun e w' => ∃ q, e = .returned (.pointer q) ∧ Nl w q w' := by
  obtain ⟨la, hla, L, hl⟩ := h.last hm hb
  refine zz13 lad sad dad (some ⟨gT, 0, none⟩) al.length lcap sns.length scap ds.length dcap aa.length cT w _ ?_
  have o1 := (Old.refl w).alloc (.cells (s86 (.slice lad al.length lcap)) 86)
  refine (r30Sn al sns ds aa w.heap.size lad lb loff lcap sad sb soff scap dad db doff dcap gT 0 cT _ (h.env o1 (alloc_row 0 _ rfl)) m hl la hla (by rw [L.rej, hr]) (by rw [h.pn]; exact hk)).mono ?_
  rintro x w' ⟨rfl, ho⟩
  exact ⟨_, rfl, rfl, o1.trans ho⟩
theorem In.zzX (h : In al sns ds ts lad lb loff sad sb soff dad db doff gT aa w) {m : Nat} {base : TR} (hm : ts.length = m + 1) (hb : ts[m]? = some base) (hr : base.rej ≠ sB) (hr2 : base.rej ≠ dB) :
    Calls Try.prog 13 #[.slice lad al.length lcap, .slice sad sns.length scap, .slice dad ds.length dcap, .slice (some ⟨gT, 0, none⟩) aa.length cT] w fun e w' => ∃ q, e = .returned (.pointer q) ∧ Nl w q w' := by
  obtain ⟨la, hla, L, hl⟩ := h.last hm hb
  refine zz13 lad sad dad (some ⟨gT, 0, none⟩) al.length lcap sns.length scap ds.length dcap aa.length cT w _ ?_
  have o1 := (Old.refl w).alloc (.cells (s86 (.slice lad al.length lcap)) 86)
  refine (r30X al sns ds aa w.heap.size lad lb loff lcap sad sb soff scap dad db doff dcap gT 0 cT _ (h.env o1 (alloc_row 0 _ rfl)) m hl la hla (by rw [L.rej]; exact hr) (by rw [L.rej]; exact hr2)).mono ?_
  rintro x w' ⟨rfl, ho⟩
  exact ⟨_, rfl, rfl, o1.trans ho⟩
end
/-! ### the law's own search, from behind -/
def back {α : Type} (q : α → Bool) (xs : List α) (j : Nat) : Int := match (xs.drop j).findIdx? q with | some i => ((j + i : Nat) : Int) | none => -1
theorem back_end {α : Type} (q : α → Bool) (xs : List α) : back q xs xs.length = -1 := by
  unfold back; rw [List.drop_length]; rfl
theorem back_zero {α : Type} (q : α → Bool) (xs : List α) : back q xs 0 = idx q xs := by
  unfold back idx
  rw [List.drop_zero]
  cases xs.findIdx? q <;> simp
theorem back_step {α : Type} (q : α → Bool) (xs : List α) (j : Nat) (x : α) (hx : xs[j]? = some x) : back q xs j = if q x then (j : Int) else back q xs (j + 1) := by
  obtain ⟨hj, e⟩ := List.getElem?_eq_some_iff.1 hx
  unfold back
  rw [List.drop_eq_getElem_cons hj, e, List.findIdx?_cons]
  cases hq : q x
  · cases h2 : (xs.drop (j + 1)).findIdx? q with
    | none => simp
    | some i => simp; omega
  · simp
theorem idx_cases {α : Type} (q : α → Bool) (xs : List α) : idx q xs = -1 ∨ ∃ (k : Nat) (x : α), idx q xs = k ∧ xs[k]? = some x := by
  unfold idx
  cases h : xs.findIdx? q with
  | none => exact .inl rfl
  | some i =>
    obtain ⟨hi, _⟩ := List.findIdx?_eq_some_iff_getElem.1 h
    exact .inr ⟨i, xs[i], rfl, List.getElem?_eq_getElem hi⟩
end Go.Proofs.Qxb6609239a.R
