import Derived.Test.Qxb6609239aPick
import Derived.Laws.EntriesVeiled
namespace Go.Proofs.Qxb6609239a.R
open Go.RowKit
set_option linter.unusedVariables false
attribute [local go_sem ↓] Go.wp_at_zero Go.wp_at_succ
abbrev u95 (sn dn : Value) : Array Value := #[.slice none 0 0, sn, dn, .slice none 0 0, .slice none 0 0, .bool false, .bool false, .bool false, .bool false, .slice none 0 0, .bool false, .slice none 0 0]
abbrev e89 (bs : Nat) : Array Value := #[.pointer (some ⟨bs, 0, none⟩), .pointer none]
abbrev sB : ByteArray := ⟨#[115, 45, 110, 115, 115, 97, 105]⟩
abbrev dB : ByteArray := ⟨#[100, 110, 110]⟩
theorem five (w : World) (c0 c1 c2 c3 c4 : Array Value) (t0 t1 t2 t3 t4 : TypeId) :
    Old w (((((w.alloc (.cells c0 t0)).alloc (.cells c1 t1)).alloc (.cells c2 t2)).alloc (.cells c3 t3)).alloc (.cells c4 t4)) ∧
    (((((w.alloc (.cells c0 t0)).alloc (.cells c1 t1)).alloc (.cells c2 t2)).alloc (.cells c3 t3)).alloc (.cells c4 t4)).heap[w.heap.size]? = some (.cells c0 t0 (0, 0)) ∧
    (((((w.alloc (.cells c0 t0)).alloc (.cells c1 t1)).alloc (.cells c2 t2)).alloc (.cells c3 t3)).alloc (.cells c4 t4)).heap[w.heap.size + 1]? = some (.cells c1 t1 (0, 0)) ∧
    (((((w.alloc (.cells c0 t0)).alloc (.cells c1 t1)).alloc (.cells c2 t2)).alloc (.cells c3 t3)).alloc (.cells c4 t4)).heap[w.heap.size + 1 + 1]? = some (.cells c2 t2 (0, 0)) ∧
    (((((w.alloc (.cells c0 t0)).alloc (.cells c1 t1)).alloc (.cells c2 t2)).alloc (.cells c3 t3)).alloc (.cells c4 t4)).heap[w.heap.size + 1 + 1 + 1]? = some (.cells c3 t3 (0, 0)) ∧
    (((((w.alloc (.cells c0 t0)).alloc (.cells c1 t1)).alloc (.cells c2 t2)).alloc (.cells c3 t3)).alloc (.cells c4 t4)).heap[w.heap.size + 1 + 1 + 1 + 1]? = some (.cells c4 t4 (0, 0)) := by
  have s : ∀ (u : World) (c : Array Value) (t : TypeId), (u.alloc (.cells c t)).heap.size = u.heap.size + 1 := fun u c t => by simp
  have n : ∀ (u : World) (c : Array Value) (t : TypeId), (u.alloc (.cells c t)).heap[u.heap.size]? = some (.cells c t (0, 0)) := fun u c t => heap_alloc_new u _
  have o : ∀ (u : World) (c : Array Value) (t : TypeId), Old u (u.alloc (.cells c t)) := fun u c t => (Old.refl u).alloc _
  generalize h1 : w.alloc (.cells c0 t0) = w1
  have z1 : w1.heap.size = w.heap.size + 1 := by rw [← h1]; exact s _ _ _
  have p1 : w1.heap[w.heap.size]? = some (.cells c0 t0 (0, 0)) := by rw [← h1]; exact n _ _ _
  have o1 : Old w w1 := by rw [← h1]; exact o _ _ _
  generalize h2 : w1.alloc (.cells c1 t1) = w2
  have z2 : w2.heap.size = w.heap.size + 1 + 1 := by rw [← h2, s, z1]
  have p2 : w2.heap[w.heap.size + 1]? = some (.cells c1 t1 (0, 0)) := by rw [← h2, ← z1]; exact n _ _ _
  have o2 : Old w1 w2 := by rw [← h2]; exact o _ _ _
  generalize h3 : w2.alloc (.cells c2 t2) = w3
  have z3 : w3.heap.size = w.heap.size + 1 + 1 + 1 := by rw [← h3, s, z2]
  have p3 : w3.heap[w.heap.size + 1 + 1]? = some (.cells c2 t2 (0, 0)) := by rw [← h3, ← z2]; exact n _ _ _
  have o3 : Old w2 w3 := by rw [← h3]; exact o _ _ _
  generalize h4 : w3.alloc (.cells c3 t3) = w4
  have z4 : w4.heap.size = w.heap.size + 1 + 1 + 1 + 1 := by rw [← h4, s, z3]
  have p4 : w4.heap[w.heap.size + 1 + 1 + 1]? = some (.cells c3 t3 (0, 0)) := by rw [← h4, ← z3]; exact n _ _ _
  have o4 : Old w3 w4 := by rw [← h4]; exact o _ _ _
  generalize h5 : w4.alloc (.cells c4 t4) = w5
  have p5 : w5.heap[w.heap.size + 1 + 1 + 1 + 1]? = some (.cells c4 t4 (0, 0)) := by rw [← h5, ← z4]; exact n _ _ _
  have o5 : Old w4 w5 := by rw [← h5]; exact o _ _ _
  exact ⟨o1.trans (o2.trans (o3.trans (o4.trans o5))), (o2.trans (o3.trans (o4.trans o5))).heap p1, (o3.trans (o4.trans o5)).heap p2, (o4.trans o5).heap p3, o5.heap p4, p5⟩
/-- what retry is handed -/
structure Env (w : World) (al sns : List NS) (ds : List ByteArray) (aa : List (Nat × TR)) (bs : Nat) (lad : Option Addr) (lb loff lcap : Nat) (sad : Option Addr) (sb soff : Nat) (dad : Option Addr) (db doff : Nat) (ad : Option Addr) (b off : Nat) : Prop where
  ral : Row w 5 NS.cells al lad lb loff
  all : al.length ≤ 1048576
  rbs : w.cell? ⟨bs, 0, none⟩ = some (.slice lad al.length lcap)
  rsn : Row w 5 NS.cells sns sad sb soff
  snl : sns.length ≤ 1048576
  rdn : Row w 1 dcl ds dad db doff
  dnl : ds.length ≤ 1048576
  dsz : ∀ d ∈ ds, d.size ≤ 1048576
  raa : Row w 1 acl aa ad b off
  aal : aa.length ≤ 1048576
  ok : ∀ a ∈ aa, AOK w a
  asz : ∀ a ∈ aa, a.2.dn.size ≤ 1048576
theorem Env.old {w w' : World} {al sns : List NS} {ds : List ByteArray} {aa : List (Nat × TR)} {bs : Nat} {lad : Option Addr} {lb loff lcap : Nat} {sad : Option Addr} {sb soff : Nat} {dad : Option Addr} {db doff : Nat} {ad : Option Addr} {b off : Nat}
    (h : Env w al sns ds aa bs lad lb loff lcap sad sb soff dad db doff ad b off) (ho : Old w w') : Env w' al sns ds aa bs lad lb loff lcap sad sb soff dad db doff ad b off :=
  ⟨h.ral.old ho, h.all, ho.cell h.rbs, h.rsn.old ho, h.snl, h.rdn.old ho, h.dnl, h.dsz, h.raa.old ho, h.aal, fun a ha => (h.ok a ha).old ho, h.asz⟩
/-- a request that retry hands back -/
def Got (w : World) (t : TR) (e : Ending) (w' : World) : Prop := ∃ g, e = .returned (.pointer (some ⟨g, 0, none⟩)) ∧ w'.heap[g]? = some (.cells (rq t) 59 (0, 0)) ∧ TOK w' t ∧ w.heap.size ≤ g ∧ Old w w'
def withD (t : TR) (q : Nat × Nat) (d : ByteArray) : TR := { t with pd := some q, dn := d }
def withN (t : TR) (q : Nat × Nat) (n : NS) : TR := { t with ps := some q, n := n }
def Nil (w : World) (e : Ending) (w' : World) : Prop := e = .returned (.pointer none) ∧ Old w w'
set_option maxRecDepth 100000 in
set_option maxHeartbeats 3200000 in
theorem r30D (al sns : List NS) (ds : List ByteArray) (aa : List (Nat × TR)) (bs : Nat) (lad : Option Addr) (lb loff lcap : Nat) (sad : Option Addr) (sb soff scap : Nat) (dad : Option Addr) (db doff dcap : Nat) (b off cap : Nat) (w : World)
    (h : Env w al sns ds aa bs lad lb loff lcap sad sb soff dad db doff (some ⟨b, off, none⟩) b off) (m : Nat) (hm : aa.length = m + 1) (la : Nat × TR) (hx : aa[m]? = some la) (hrej : la.2.rej = dB) (k : Nat) (hr : idx (pD aa) ds = k) (d : ByteArray) (hd : ds[k]? = some d) :
    Calls Try.prog 30 #[.agg (e89 bs), .agg (u95 (.slice sad sns.length scap) (.slice dad ds.length dcap)), .slice (some ⟨b, off, none⟩) aa.length cap] w fun e w' => Got w (withD la.2 (db, doff + k) d) e w' := by
  obtain ⟨g, t⟩ := la
  have HE0 := hide h
  dsimp only at hrej
  have hk := h.ok _ (List.mem_of_getElem? hx)
  have HT := hide hk.tok
  have hx' : w.cell? ⟨b, off + m, none⟩ = some (.pointer (some ⟨g, 0, none⟩)) := by have := h.raa.cell m _ hx 0 _ rfl; simpa using this
  have a0 : w.cell? ⟨g, 0, none⟩ = some (.int .u8 t.rule) := hk.cell 0 _ rfl
  obtain ⟨r0, q0⟩ : ∃ r, r = adr t.pm := ⟨_, rfl⟩
  obtain ⟨r1, q1⟩ : ∃ r, r = adr t.ps := ⟨_, rfl⟩
  obtain ⟨r2, q2⟩ : ∃ r, r = adr t.pd := ⟨_, rfl⟩
  obtain ⟨r3, q3⟩ : ∃ r, r = adr t.pp := ⟨_, rfl⟩
  obtain ⟨r4, q4⟩ : ∃ r, r = adr t.pa := ⟨_, rfl⟩
  have a2 : w.cell? ⟨g, 2, none⟩ = some (.pointer r0) := by rw [q0]; exact hk.cell 2 _ rfl
  have a3 : w.cell? ⟨g, 3, none⟩ = some (.pointer r1) := by rw [q1]; exact hk.cell 3 _ rfl
  have a4 : w.cell? ⟨g, 4, none⟩ = some (.pointer r2) := by rw [q2]; exact hk.cell 4 _ rfl
  have a5 : w.cell? ⟨g, 5, none⟩ = some (.pointer r3) := by rw [q3]; exact hk.cell 5 _ rfl
  have a6 : w.cell? ⟨g, 6, none⟩ = some (.pointer r4) := by rw [q4]; exact hk.cell 6 _ rfl
  have a7 : w.cell? ⟨g, 7, none⟩ = some (.bool t.ma) := hk.cell 7 _ rfl
  have a8 : w.cell? ⟨g, 8, none⟩ = some (.string dB) := by rw [← hrej]; exact hk.cell 8 _ rfl
  have hml := h.aal
  rw [hm] at hml
  have HQ := hide (⟨q0, q1, q2, q3, q4⟩ : r0 = adr t.pm ∧ r1 = adr t.ps ∧ r2 = adr t.pd ∧ r3 = adr t.pp ∧ r4 = adr t.pa)
  have l1 := cell_lt hx'
  have l2 := cell_lt a0
  have lb0 : b < w.heap.size + 1 := by omega
  have lb1 : b < w.heap.size + 1 + 1 := by omega
  have lb2 : b < w.heap.size + 1 + 1 + 1 := by omega
  have lb3 : b < w.heap.size + 1 + 1 + 1 + 1 := by omega
  have lg0 : g < w.heap.size + 1 := by omega
  have lg1 : g < w.heap.size + 1 + 1 := by omega
  have lg2 : g < w.heap.size + 1 + 1 + 1 := by omega
  have lg3 : g < w.heap.size + 1 + 1 + 1 + 1 := by omega
  have hmk := mkf
  obtain ⟨o5, p0, p1, p2, p3, p4⟩ := five w (e89 bs) (u95 (.slice sad sns.length scap) (.slice dad ds.length dcap)) #[.slice (some ⟨b, off, none⟩) aa.length cap] #[.func (.func 33) #[] #[.pointer (some ⟨w.heap.size + 1 + 1, 0, none⟩)]] #[.pointer r0, .pointer r1, .pointer r2, .pointer r3, .pointer r4, .bool t.ma] 89 95 41 103 59
  have HE := hide (h.old o5)
  have HR := hide hr
  have HD := hide hd
  have HO5 := hide o5
  have HP0 := hide p0
  have HP1 := hide p1
  have HP2 := hide p2
  have HP3 := hide p3
  have HP4 := hide p4
  have HM := hide hm
  rw [hm] at HE HO5 HP0 HP1 HP2 HP3 HP4 ⊢
  clear hk q0 q1 q2 q3 q4 p0 p1 p2 p3 p4 o5 h hx hm hrej hr hd
  go_enter Try.func30, Try.ntmps30
  go_upto_region 5 with fail
  generalize (((((w.alloc (.cells (e89 bs) 89)).alloc (.cells (u95 (.slice sad sns.length scap) (.slice dad ds.length dcap)) 95)).alloc (.cells #[.slice (some ⟨b, off, none⟩) (m + 1) cap] 41)).alloc (.cells #[.func (.func 33) #[] #[.pointer (some ⟨w.heap.size + 1 + 1, 0, none⟩)]] 103)).alloc (.cells #[.pointer r0, .pointer r1, .pointer r2, .pointer r3, .pointer r4, .bool t.ma] 59)) = w5 at *
  clear a0 a2 a3 a4 a5 a6 a7 a8 hx'
  have HC : Hid (∀ W, Old w5 W → Calls Try.prog 41 #[.slice dad ds.length dcap, .func (.func 42) #[] #[.pointer (some ⟨w.heap.size + 1 + 1 + 1, 0, none⟩)]] W fun e w' => (∃ v, e = .returned (.tuple #[.pointer (some ⟨db, doff + k, none⟩), .bool v])) ∧ Old W w') :=
    hide fun W ho => choose41 (pD aa) ds _ dad db doff dcap W (HE.out.old ho).rdn HE.out.dnl (fun x hx W' v ho' hp => clo42 aa x _ (w.heap.size + 1 + 1) _ b off cap W' (HE.out.old (ho.trans ho')).raa HE.out.aal (HE.out.old (ho.trans ho')).ok HE.out.asz (HE.out.dsz x hx) ((ho.trans ho').cell (cell_of_row _ _ 0 _ _ _ HP3.out)) (by rw [HM.out]; exact (ho.trans ho').cell (cell_of_row _ _ 0 _ _ _ HP2.out)) v hp) k HR.out
  have E1 : (dB.toList == sB.toList) = false := by rw [toList_beq]; decide
  have E2 : (dB.toList == dB.toList) = true := by rw [toList_beq]; decide
  go_wp2_with (first
    | (go_at_call 25; refine (type25 _).mono ?_; rintro e w6 ⟨rfl, ho6⟩; have HO6 := hide ho6; have d1 : w6.cell? ⟨w.heap.size + 1, 2, none⟩ = some (.slice dad ds.length dcap) := ho6.cell (cell_of_row _ _ 2 _ _ _ HP1.out); clear ho6)
    | (go_at_call 24; refine (type24 _).mono ?_; rintro e w7 ⟨rfl, rfl⟩)
    | (go_at_call 41; refine (HC.out _ HO6.out).mono ?_; rintro e w8 ⟨⟨v, rfl⟩, ho8⟩; have HO8 := hide (HO6.out.trans ho8); have y2 : w8.cell? ⟨w.heap.size + 1 + 1 + 1 + 1, 2, none⟩ = some (.pointer r2) := HO8.out.cell (cell_of_row _ _ 2 _ _ _ HP4.out); have f2 : w8.frozen? ⟨w.heap.size + 1 + 1 + 1 + 1, 2, none⟩ = false := frozen_of_row 2 (HO8.out.heap HP4.out); have l8 := cell_lt y2; clear ho8))
  go_ret
  have oF := (HO5.out.trans HO8.out).set (p := ⟨w.heap.size + 1 + 1 + 1 + 1, 2, none⟩) (by show w.heap.size ≤ w.heap.size + 1 + 1 + 1 + 1; omega) (.pointer (some ⟨db, doff + k, none⟩))
  have T := HT.out.old oF
  refine ⟨_, rfl, ?_, ?_, by omega, oF⟩
  · have hh := heap_setCell_same _ _ 2 _ _ (.pointer (some ⟨db, doff + k, none⟩)) (HO8.out.heap HP4.out)
    simp only [List.setIfInBounds_toArray, List.set_cons_zero, List.set_cons_succ] at hh
    rw [hh]
    obtain ⟨q0, q1, q2, q3, q4⟩ := HQ.out
    rw [q0, q1, q3, q4]; rfl
  · exact ⟨T.m, T.n, fun b o e => (by cases e; have := (HE0.out.old oF).rdn.cell k d HD.out 0 _ rfl; simp only [Nat.mul_one, Nat.add_zero] at this; exact this), T.p, T.ac⟩
set_option maxRecDepth 100000 in
set_option maxHeartbeats 3200000 in
theorem r30Dn (al sns : List NS) (ds : List ByteArray) (aa : List (Nat × TR)) (bs : Nat) (lad : Option Addr) (lb loff lcap : Nat) (sad : Option Addr) (sb soff scap : Nat) (dad : Option Addr) (db doff dcap : Nat) (b off cap : Nat) (w : World)
    (h : Env w al sns ds aa bs lad lb loff lcap sad sb soff dad db doff (some ⟨b, off, none⟩) b off) (m : Nat) (hm : aa.length = m + 1) (la : Nat × TR) (hx : aa[m]? = some la) (hrej : la.2.rej = dB) (hr : idx (pD aa) ds = -1) :
    Calls Try.prog 30 #[.agg (e89 bs), .agg (u95 (.slice sad sns.length scap) (.slice dad ds.length dcap)), .slice (some ⟨b, off, none⟩) aa.length cap] w fun e w' => Nil w e w' := by
  obtain ⟨g, t⟩ := la
  have HE0 := hide h
  dsimp only at hrej
  have hk := h.ok _ (List.mem_of_getElem? hx)
  have HT := hide hk.tok
  have hx' : w.cell? ⟨b, off + m, none⟩ = some (.pointer (some ⟨g, 0, none⟩)) := by have := h.raa.cell m _ hx 0 _ rfl; simpa using this
  have a0 : w.cell? ⟨g, 0, none⟩ = some (.int .u8 t.rule) := hk.cell 0 _ rfl
  obtain ⟨r0, q0⟩ : ∃ r, r = adr t.pm := ⟨_, rfl⟩
  obtain ⟨r1, q1⟩ : ∃ r, r = adr t.ps := ⟨_, rfl⟩
  obtain ⟨r2, q2⟩ : ∃ r, r = adr t.pd := ⟨_, rfl⟩
  obtain ⟨r3, q3⟩ : ∃ r, r = adr t.pp := ⟨_, rfl⟩
  obtain ⟨r4, q4⟩ : ∃ r, r = adr t.pa := ⟨_, rfl⟩
  have a2 : w.cell? ⟨g, 2, none⟩ = some (.pointer r0) := by rw [q0]; exact hk.cell 2 _ rfl
  have a3 : w.cell? ⟨g, 3, none⟩ = some (.pointer r1) := by rw [q1]; exact hk.cell 3 _ rfl
  have a4 : w.cell? ⟨g, 4, none⟩ = some (.pointer r2) := by rw [q2]; exact hk.cell 4 _ rfl
  have a5 : w.cell? ⟨g, 5, none⟩ = some (.pointer r3) := by rw [q3]; exact hk.cell 5 _ rfl
  have a6 : w.cell? ⟨g, 6, none⟩ = some (.pointer r4) := by rw [q4]; exact hk.cell 6 _ rfl
  have a7 : w.cell? ⟨g, 7, none⟩ = some (.bool t.ma) := hk.cell 7 _ rfl
  have a8 : w.cell? ⟨g, 8, none⟩ = some (.string dB) := by rw [← hrej]; exact hk.cell 8 _ rfl
  have hml := h.aal
  rw [hm] at hml
  have HQ := hide (⟨q0, q1, q2, q3, q4⟩ : r0 = adr t.pm ∧ r1 = adr t.ps ∧ r2 = adr t.pd ∧ r3 = adr t.pp ∧ r4 = adr t.pa)
  have l1 := cell_lt hx'
  have l2 := cell_lt a0
  have lb0 : b < w.heap.size + 1 := by omega
  have lb1 : b < w.heap.size + 1 + 1 := by omega
  have lb2 : b < w.heap.size + 1 + 1 + 1 := by omega
  have lb3 : b < w.heap.size + 1 + 1 + 1 + 1 := by omega
  have lg0 : g < w.heap.size + 1 := by omega
  have lg1 : g < w.heap.size + 1 + 1 := by omega
  have lg2 : g < w.heap.size + 1 + 1 + 1 := by omega
  have lg3 : g < w.heap.size + 1 + 1 + 1 + 1 := by omega
  have hmk := mkf
  obtain ⟨o5, p0, p1, p2, p3, p4⟩ := five w (e89 bs) (u95 (.slice sad sns.length scap) (.slice dad ds.length dcap)) #[.slice (some ⟨b, off, none⟩) aa.length cap] #[.func (.func 33) #[] #[.pointer (some ⟨w.heap.size + 1 + 1, 0, none⟩)]] #[.pointer r0, .pointer r1, .pointer r2, .pointer r3, .pointer r4, .bool t.ma] 89 95 41 103 59
  have HE := hide (h.old o5)
  have HR := hide hr
  have HO5 := hide o5
  have HP0 := hide p0
  have HP1 := hide p1
  have HP2 := hide p2
  have HP3 := hide p3
  have HP4 := hide p4
  have HM := hide hm
  rw [hm] at HE HO5 HP0 HP1 HP2 HP3 HP4 ⊢
  clear hk q0 q1 q2 q3 q4 p0 p1 p2 p3 p4 o5 h hx hm hrej hr
  go_enter Try.func30, Try.ntmps30
  go_upto_region 5 with fail
  generalize (((((w.alloc (.cells (e89 bs) 89)).alloc (.cells (u95 (.slice sad sns.length scap) (.slice dad ds.length dcap)) 95)).alloc (.cells #[.slice (some ⟨b, off, none⟩) (m + 1) cap] 41)).alloc (.cells #[.func (.func 33) #[] #[.pointer (some ⟨w.heap.size + 1 + 1, 0, none⟩)]] 103)).alloc (.cells #[.pointer r0, .pointer r1, .pointer r2, .pointer r3, .pointer r4, .bool t.ma] 59)) = w5 at *
  clear a0 a2 a3 a4 a5 a6 a7 a8 hx'
  have HC : Hid (∀ W, Old w5 W → Calls Try.prog 41 #[.slice dad ds.length dcap, .func (.func 42) #[] #[.pointer (some ⟨w.heap.size + 1 + 1 + 1, 0, none⟩)]] W fun e w' => (∃ v, e = .returned (.tuple #[.pointer none, .bool v])) ∧ Old W w') :=
    hide fun W ho => choose41n (pD aa) ds _ dad db doff dcap W (HE.out.old ho).rdn HE.out.dnl (fun x hx W' v ho' hp => clo42 aa x _ (w.heap.size + 1 + 1) _ b off cap W' (HE.out.old (ho.trans ho')).raa HE.out.aal (HE.out.old (ho.trans ho')).ok HE.out.asz (HE.out.dsz x hx) ((ho.trans ho').cell (cell_of_row _ _ 0 _ _ _ HP3.out)) (by rw [HM.out]; exact (ho.trans ho').cell (cell_of_row _ _ 0 _ _ _ HP2.out)) v hp) HR.out
  have E1 : (dB.toList == sB.toList) = false := by rw [toList_beq]; decide
  have E2 : (dB.toList == dB.toList) = true := by rw [toList_beq]; decide
  go_wp2_with (first
    | (go_at_call 25; refine (type25 _).mono ?_; rintro e w6 ⟨rfl, ho6⟩; have HO6 := hide ho6; have d1 : w6.cell? ⟨w.heap.size + 1, 2, none⟩ = some (.slice dad ds.length dcap) := ho6.cell (cell_of_row _ _ 2 _ _ _ HP1.out); clear ho6)
    | (go_at_call 24; refine (type24 _).mono ?_; rintro e w7 ⟨rfl, rfl⟩)
    | (go_at_call 41; refine (HC.out _ HO6.out).mono ?_; rintro e w8 ⟨⟨v, rfl⟩, ho8⟩; have HO8 := hide (HO6.out.trans ho8); have y2 : w8.cell? ⟨w.heap.size + 1 + 1 + 1 + 1, 2, none⟩ = some (.pointer r2) := HO8.out.cell (cell_of_row _ _ 2 _ _ _ HP4.out); have f2 : w8.frozen? ⟨w.heap.size + 1 + 1 + 1 + 1, 2, none⟩ = false := frozen_of_row 2 (HO8.out.heap HP4.out); have l8 := cell_lt y2; clear ho8))
  go_ret
  exact ⟨rfl, (HO5.out.trans HO8.out).set (p := ⟨w.heap.size + 1 + 1 + 1 + 1, 2, none⟩) (by show w.heap.size ≤ w.heap.size + 1 + 1 + 1 + 1; omega) _⟩
set_option maxRecDepth 100000 in
set_option maxHeartbeats 3200000 in
theorem r30S (al sns : List NS) (ds : List ByteArray) (aa : List (Nat × TR)) (bs : Nat) (lad : Option Addr) (lb loff lcap : Nat) (sad : Option Addr) (sb soff scap : Nat) (dad : Option Addr) (db doff dcap : Nat) (b off cap : Nat) (w : World)
    (h : Env w al sns ds aa bs lad lb loff lcap sad sb soff dad db doff (some ⟨b, off, none⟩) b off) (m : Nat) (hm : aa.length = m + 1) (la : Nat × TR) (hx : aa[m]? = some la) (hrej : la.2.rej = sB) (k : Nat) (hr : idx (pN al aa) sns = k) (d : NS) (hd : sns[k]? = some d) :
    Calls Try.prog 30 #[.agg (e89 bs), .agg (u95 (.slice sad sns.length scap) (.slice dad ds.length dcap)), .slice (some ⟨b, off, none⟩) aa.length cap] w fun e w' => Got w (withN la.2 (sb, soff + k * 5) d) e w' := by
  obtain ⟨g, t⟩ := la
  have HE0 := hide h
  dsimp only at hrej
  have hk := h.ok _ (List.mem_of_getElem? hx)
  have HT := hide hk.tok
  have hx' : w.cell? ⟨b, off + m, none⟩ = some (.pointer (some ⟨g, 0, none⟩)) := by have := h.raa.cell m _ hx 0 _ rfl; simpa using this
  have a0 : w.cell? ⟨g, 0, none⟩ = some (.int .u8 t.rule) := hk.cell 0 _ rfl
  obtain ⟨r0, q0⟩ : ∃ r, r = adr t.pm := ⟨_, rfl⟩
  obtain ⟨r1, q1⟩ : ∃ r, r = adr t.ps := ⟨_, rfl⟩
  obtain ⟨r2, q2⟩ : ∃ r, r = adr t.pd := ⟨_, rfl⟩
  obtain ⟨r3, q3⟩ : ∃ r, r = adr t.pp := ⟨_, rfl⟩
  obtain ⟨r4, q4⟩ : ∃ r, r = adr t.pa := ⟨_, rfl⟩
  have a2 : w.cell? ⟨g, 2, none⟩ = some (.pointer r0) := by rw [q0]; exact hk.cell 2 _ rfl
  have a3 : w.cell? ⟨g, 3, none⟩ = some (.pointer r1) := by rw [q1]; exact hk.cell 3 _ rfl
  have a4 : w.cell? ⟨g, 4, none⟩ = some (.pointer r2) := by rw [q2]; exact hk.cell 4 _ rfl
  have a5 : w.cell? ⟨g, 5, none⟩ = some (.pointer r3) := by rw [q3]; exact hk.cell 5 _ rfl
  have a6 : w.cell? ⟨g, 6, none⟩ = some (.pointer r4) := by rw [q4]; exact hk.cell 6 _ rfl
  have a7 : w.cell? ⟨g, 7, none⟩ = some (.bool t.ma) := hk.cell 7 _ rfl
  have a8 : w.cell? ⟨g, 8, none⟩ = some (.string sB) := by rw [← hrej]; exact hk.cell 8 _ rfl
  have hml := h.aal
  rw [hm] at hml
  have HQ := hide (⟨q0, q1, q2, q3, q4⟩ : r0 = adr t.pm ∧ r1 = adr t.ps ∧ r2 = adr t.pd ∧ r3 = adr t.pp ∧ r4 = adr t.pa)
  have l1 := cell_lt hx'
  have l2 := cell_lt a0
  have lb0 : b < w.heap.size + 1 := by omega
  have lb1 : b < w.heap.size + 1 + 1 := by omega
  have lb2 : b < w.heap.size + 1 + 1 + 1 := by omega
  have lb3 : b < w.heap.size + 1 + 1 + 1 + 1 := by omega
  have lg0 : g < w.heap.size + 1 := by omega
  have lg1 : g < w.heap.size + 1 + 1 := by omega
  have lg2 : g < w.heap.size + 1 + 1 + 1 := by omega
  have lg3 : g < w.heap.size + 1 + 1 + 1 + 1 := by omega
  have hmk := mkf
  obtain ⟨o5, p0, p1, p2, p3, p4⟩ := five w (e89 bs) (u95 (.slice sad sns.length scap) (.slice dad ds.length dcap)) #[.slice (some ⟨b, off, none⟩) aa.length cap] #[.func (.func 33) #[] #[.pointer (some ⟨w.heap.size + 1 + 1, 0, none⟩)]] #[.pointer r0, .pointer r1, .pointer r2, .pointer r3, .pointer r4, .bool t.ma] 89 95 41 103 59
  have HE := hide (h.old o5)
  have HR := hide hr
  have HD := hide hd
  have HO5 := hide o5
  have HP0 := hide p0
  have HP1 := hide p1
  have HP2 := hide p2
  have HP3 := hide p3
  have HP4 := hide p4
  have HM := hide hm
  rw [hm] at HE HO5 HP0 HP1 HP2 HP3 HP4 ⊢
  clear hk q0 q1 q2 q3 q4 p0 p1 p2 p3 p4 o5 h hx hm hrej hr hd
  go_enter Try.func30, Try.ntmps30
  go_upto_region 5 with fail
  generalize (((((w.alloc (.cells (e89 bs) 89)).alloc (.cells (u95 (.slice sad sns.length scap) (.slice dad ds.length dcap)) 95)).alloc (.cells #[.slice (some ⟨b, off, none⟩) (m + 1) cap] 41)).alloc (.cells #[.func (.func 33) #[] #[.pointer (some ⟨w.heap.size + 1 + 1, 0, none⟩)]] 103)).alloc (.cells #[.pointer r0, .pointer r1, .pointer r2, .pointer r3, .pointer r4, .bool t.ma] 59)) = w5 at *
  clear a0 a2 a3 a4 a5 a6 a7 a8 hx'
  have HC : Hid (∀ W, Old w5 W → Calls Try.prog 36 #[.slice sad sns.length scap, .func (.func 37) #[] #[.pointer (some ⟨w.heap.size, 0, none⟩), .pointer (some ⟨w.heap.size + 1 + 1 + 1, 0, none⟩)]] W fun e w' => (∃ v, e = .returned (.tuple #[.pointer (some ⟨sb, soff + k * 5, none⟩), .bool v])) ∧ Old W w') :=
    hide fun W ho => choose36 (pN al aa) sns _ _ sad sb soff scap W (HE.out.old ho).rsn HE.out.snl (fun x hx W' v ho' hp => clo37 al aa x bs _ _ (w.heap.size + 1 + 1) lad lb loff lcap _ b off cap W' (HE.out.old (ho.trans ho')).ral HE.out.all (HE.out.old (ho.trans ho')).rbs (HE.out.old (ho.trans ho')).raa HE.out.aal (HE.out.old (ho.trans ho')).ok ((ho.trans ho').cell (cell_of_row _ _ 0 _ _ _ HP0.out)) ((ho.trans ho').cell (cell_of_row _ _ 1 _ _ _ HP0.out)) ((ho.trans ho').cell (cell_of_row _ _ 0 _ _ _ HP3.out)) (by rw [HM.out]; exact (ho.trans ho').cell (cell_of_row _ _ 0 _ _ _ HP2.out)) v hp) k HR.out
  have E1 : (sB.toList == sB.toList) = true := by rw [toList_beq]; decide
  go_wp2_with (first
    | (go_at_call 25; refine (type25 _).mono ?_; rintro e w6 ⟨rfl, ho6⟩; have HO6 := hide ho6; have d1 : w6.cell? ⟨w.heap.size + 1, 1, none⟩ = some (.slice sad sns.length scap) := ho6.cell (cell_of_row _ _ 1 _ _ _ HP1.out); clear ho6)
    | (go_at_call 24; refine (type24 _).mono ?_; rintro e w7 ⟨rfl, rfl⟩)
    | (go_at_call 36; refine (HC.out _ HO6.out).mono ?_; rintro e w8 ⟨⟨v, rfl⟩, ho8⟩; have HO8 := hide (HO6.out.trans ho8); have y2 : w8.cell? ⟨w.heap.size + 1 + 1 + 1 + 1, 1, none⟩ = some (.pointer r1) := HO8.out.cell (cell_of_row _ _ 1 _ _ _ HP4.out); have f2 : w8.frozen? ⟨w.heap.size + 1 + 1 + 1 + 1, 1, none⟩ = false := frozen_of_row 1 (HO8.out.heap HP4.out); have l8 := cell_lt y2; clear ho8))
  go_ret
  have oF := (HO5.out.trans HO8.out).set (p := ⟨w.heap.size + 1 + 1 + 1 + 1, 1, none⟩) (by show w.heap.size ≤ w.heap.size + 1 + 1 + 1 + 1; omega) (.pointer (some ⟨sb, soff + k * 5, none⟩))
  have T := HT.out.old oF
  refine ⟨_, rfl, ?_, ?_, by omega, oF⟩
  · have hh := heap_setCell_same _ _ 1 _ _ (.pointer (some ⟨sb, soff + k * 5, none⟩)) (HO8.out.heap HP4.out)
    simp only [List.setIfInBounds_toArray, List.set_cons_zero, List.set_cons_succ] at hh
    rw [hh]
    obtain ⟨q0, q1, q2, q3, q4⟩ := HQ.out
    rw [q0, q2, q3, q4]; rfl
  · exact ⟨T.m, fun b o e f v hv => (by cases e; exact (HE0.out.old oF).rsn.cell k d HD.out f v hv), T.d, T.p, T.ac⟩
set_option maxRecDepth 100000 in
set_option maxHeartbeats 3200000 in
theorem r30Sn (al sns : List NS) (ds : List ByteArray) (aa : List (Nat × TR)) (bs : Nat) (lad : Option Addr) (lb loff lcap : Nat) (sad : Option Addr) (sb soff scap : Nat) (dad : Option Addr) (db doff dcap : Nat) (b off cap : Nat) (w : World)
    (h : Env w al sns ds aa bs lad lb loff lcap sad sb soff dad db doff (some ⟨b, off, none⟩) b off) (m : Nat) (hm : aa.length = m + 1) (la : Nat × TR) (hx : aa[m]? = some la) (hrej : la.2.rej = sB) (hr : idx (pN al aa) sns = -1) :
    Calls Try.prog 30 #[.agg (e89 bs), .agg (u95 (.slice sad sns.length scap) (.slice dad ds.length dcap)), .slice (some ⟨b, off, none⟩) aa.length cap] w fun e w' => Nil w e w' := by
  obtain ⟨g, t⟩ := la
  have HE0 := hide h
  dsimp only at hrej
  have hk := h.ok _ (List.mem_of_getElem? hx)
  have HT := hide hk.tok
  have hx' : w.cell? ⟨b, off + m, none⟩ = some (.pointer (some ⟨g, 0, none⟩)) := by have := h.raa.cell m _ hx 0 _ rfl; simpa using this
  have a0 : w.cell? ⟨g, 0, none⟩ = some (.int .u8 t.rule) := hk.cell 0 _ rfl
  obtain ⟨r0, q0⟩ : ∃ r, r = adr t.pm := ⟨_, rfl⟩
  obtain ⟨r1, q1⟩ : ∃ r, r = adr t.ps := ⟨_, rfl⟩
  obtain ⟨r2, q2⟩ : ∃ r, r = adr t.pd := ⟨_, rfl⟩
  obtain ⟨r3, q3⟩ : ∃ r, r = adr t.pp := ⟨_, rfl⟩
  obtain ⟨r4, q4⟩ : ∃ r, r = adr t.pa := ⟨_, rfl⟩
  have a2 : w.cell? ⟨g, 2, none⟩ = some (.pointer r0) := by rw [q0]; exact hk.cell 2 _ rfl
  have a3 : w.cell? ⟨g, 3, none⟩ = some (.pointer r1) := by rw [q1]; exact hk.cell 3 _ rfl
  have a4 : w.cell? ⟨g, 4, none⟩ = some (.pointer r2) := by rw [q2]; exact hk.cell 4 _ rfl
  have a5 : w.cell? ⟨g, 5, none⟩ = some (.pointer r3) := by rw [q3]; exact hk.cell 5 _ rfl
  have a6 : w.cell? ⟨g, 6, none⟩ = some (.pointer r4) := by rw [q4]; exact hk.cell 6 _ rfl
  have a7 : w.cell? ⟨g, 7, none⟩ = some (.bool t.ma) := hk.cell 7 _ rfl
  have a8 : w.cell? ⟨g, 8, none⟩ = some (.string sB) := by rw [← hrej]; exact hk.cell 8 _ rfl
  have hml := h.aal
  rw [hm] at hml
  have HQ := hide (⟨q0, q1, q2, q3, q4⟩ : r0 = adr t.pm ∧ r1 = adr t.ps ∧ r2 = adr t.pd ∧ r3 = adr t.pp ∧ r4 = adr t.pa)
  have l1 := cell_lt hx'
  have l2 := cell_lt a0
  have lb0 : b < w.heap.size + 1 := by omega
  have lb1 : b < w.heap.size + 1 + 1 := by omega
  have lb2 : b < w.heap.size + 1 + 1 + 1 := by omega
  have lb3 : b < w.heap.size + 1 + 1 + 1 + 1 := by omega
  have lg0 : g < w.heap.size + 1 := by omega
  have lg1 : g < w.heap.size + 1 + 1 := by omega
  have lg2 : g < w.heap.size + 1 + 1 + 1 := by omega
  have lg3 : g < w.heap.size + 1 + 1 + 1 + 1 := by omega
  have hmk := mkf
  obtain ⟨o5, p0, p1, p2, p3, p4⟩ := five w (e89 bs) (u95 (.slice sad sns.length scap) (.slice dad ds.length dcap)) #[.slice (some ⟨b, off, none⟩) aa.length cap] #[.func (.func 33) #[] #[.pointer (some ⟨w.heap.size + 1 + 1, 0, none⟩)]] #[.pointer r0, .pointer r1, .pointer r2, .pointer r3, .pointer r4, .bool t.ma] 89 95 41 103 59
  have HE := hide (h.old o5)
  have HR := hide hr
  have HO5 := hide o5
  have HP0 := hide p0
  have HP1 := hide p1
  have HP2 := hide p2
  have HP3 := hide p3
  have HP4 := hide p4
  have HM := hide hm
  rw [hm] at HE HO5 HP0 HP1 HP2 HP3 HP4 ⊢
  clear hk q0 q1 q2 q3 q4 p0 p1 p2 p3 p4 o5 h hx hm hrej hr
  go_enter Try.func30, Try.ntmps30
  go_upto_region 5 with fail
  generalize (((((w.alloc (.cells (e89 bs) 89)).alloc (.cells (u95 (.slice sad sns.length scap) (.slice dad ds.length dcap)) 95)).alloc (.cells #[.slice (some ⟨b, off, none⟩) (m + 1) cap] 41)).alloc (.cells #[.func (.func 33) #[] #[.pointer (some ⟨w.heap.size + 1 + 1, 0, none⟩)]] 103)).alloc (.cells #[.pointer r0, .pointer r1, .pointer r2, .pointer r3, .pointer r4, .bool t.ma] 59)) = w5 at *
  clear a0 a2 a3 a4 a5 a6 a7 a8 hx'
  have HC : Hid (∀ W, Old w5 W → Calls Try.prog 36 #[.slice sad sns.length scap, .func (.func 37) #[] #[.pointer (some ⟨w.heap.size, 0, none⟩), .pointer (some ⟨w.heap.size + 1 + 1 + 1, 0, none⟩)]] W fun e w' => (∃ v, e = .returned (.tuple #[.pointer none, .bool v])) ∧ Old W w') :=
    hide fun W ho => choose36n (pN al aa) sns _ _ sad sb soff scap W (HE.out.old ho).rsn HE.out.snl (fun x hx W' v ho' hp => clo37 al aa x bs _ _ (w.heap.size + 1 + 1) lad lb loff lcap _ b off cap W' (HE.out.old (ho.trans ho')).ral HE.out.all (HE.out.old (ho.trans ho')).rbs (HE.out.old (ho.trans ho')).raa HE.out.aal (HE.out.old (ho.trans ho')).ok ((ho.trans ho').cell (cell_of_row _ _ 0 _ _ _ HP0.out)) ((ho.trans ho').cell (cell_of_row _ _ 1 _ _ _ HP0.out)) ((ho.trans ho').cell (cell_of_row _ _ 0 _ _ _ HP3.out)) (by rw [HM.out]; exact (ho.trans ho').cell (cell_of_row _ _ 0 _ _ _ HP2.out)) v hp) HR.out
  have E1 : (sB.toList == sB.toList) = true := by rw [toList_beq]; decide
  go_wp2_with (first
    | (go_at_call 25; refine (type25 _).mono ?_; rintro e w6 ⟨rfl, ho6⟩; have HO6 := hide ho6; have d1 : w6.cell? ⟨w.heap.size + 1, 1, none⟩ = some (.slice sad sns.length scap) := ho6.cell (cell_of_row _ _ 1 _ _ _ HP1.out); clear ho6)
    | (go_at_call 24; refine (type24 _).mono ?_; rintro e w7 ⟨rfl, rfl⟩)
    | (go_at_call 36; refine (HC.out _ HO6.out).mono ?_; rintro e w8 ⟨⟨v, rfl⟩, ho8⟩; have HO8 := hide (HO6.out.trans ho8); have y2 : w8.cell? ⟨w.heap.size + 1 + 1 + 1 + 1, 1, none⟩ = some (.pointer r1) := HO8.out.cell (cell_of_row _ _ 1 _ _ _ HP4.out); have f2 : w8.frozen? ⟨w.heap.size + 1 + 1 + 1 + 1, 1, none⟩ = false := frozen_of_row 1 (HO8.out.heap HP4.out); have l8 := cell_lt y2; clear ho8))
  go_ret
  exact ⟨rfl, (HO5.out.trans HO8.out).set (p := ⟨w.heap.size + 1 + 1 + 1 + 1, 1, none⟩) (by show w.heap.size ≤ w.heap.size + 1 + 1 + 1 + 1; omega) _⟩
set_option maxRecDepth 100000 in
set_option maxHeartbeats 3200000 in
theorem r30X (al sns : List NS) (ds : List ByteArray) (aa : List (Nat × TR)) (bs : Nat) (lad : Option Addr) (lb loff lcap : Nat) (sad : Option Addr) (sb soff scap : Nat) (dad : Option Addr) (db doff dcap : Nat) (b off cap : Nat) (w : World)
    (h : Env w al sns ds aa bs lad lb loff lcap sad sb soff dad db doff (some ⟨b, off, none⟩) b off) (m : Nat) (hm : aa.length = m + 1) (la : Nat × TR) (hx : aa[m]? = some la) (hrej : la.2.rej ≠ sB) (hrej2 : la.2.rej ≠ dB) :
    Calls Try.prog 30 #[.agg (e89 bs), .agg (u95 (.slice sad sns.length scap) (.slice dad ds.length dcap)), .slice (some ⟨b, off, none⟩) aa.length cap] w fun e w' => Nil w e w' := by
  obtain ⟨g, t⟩ := la
  have HE0 := hide h
  dsimp only at hrej
  dsimp only at hrej2
  have hk := h.ok _ (List.mem_of_getElem? hx)
  have HT := hide hk.tok
  have hx' : w.cell? ⟨b, off + m, none⟩ = some (.pointer (some ⟨g, 0, none⟩)) := by have := h.raa.cell m _ hx 0 _ rfl; simpa using this
  have a0 : w.cell? ⟨g, 0, none⟩ = some (.int .u8 t.rule) := hk.cell 0 _ rfl
  obtain ⟨r0, q0⟩ : ∃ r, r = adr t.pm := ⟨_, rfl⟩
  obtain ⟨r1, q1⟩ : ∃ r, r = adr t.ps := ⟨_, rfl⟩
  obtain ⟨r2, q2⟩ : ∃ r, r = adr t.pd := ⟨_, rfl⟩
  obtain ⟨r3, q3⟩ : ∃ r, r = adr t.pp := ⟨_, rfl⟩
  obtain ⟨r4, q4⟩ : ∃ r, r = adr t.pa := ⟨_, rfl⟩
  have a2 : w.cell? ⟨g, 2, none⟩ = some (.pointer r0) := by rw [q0]; exact hk.cell 2 _ rfl
  have a3 : w.cell? ⟨g, 3, none⟩ = some (.pointer r1) := by rw [q1]; exact hk.cell 3 _ rfl
  have a4 : w.cell? ⟨g, 4, none⟩ = some (.pointer r2) := by rw [q2]; exact hk.cell 4 _ rfl
  have a5 : w.cell? ⟨g, 5, none⟩ = some (.pointer r3) := by rw [q3]; exact hk.cell 5 _ rfl
  have a6 : w.cell? ⟨g, 6, none⟩ = some (.pointer r4) := by rw [q4]; exact hk.cell 6 _ rfl
  have a7 : w.cell? ⟨g, 7, none⟩ = some (.bool t.ma) := hk.cell 7 _ rfl
  have a8 : w.cell? ⟨g, 8, none⟩ = some (.string t.rej) := hk.cell 8 _ rfl
  have hml := h.aal
  rw [hm] at hml
  have HQ := hide (⟨q0, q1, q2, q3, q4⟩ : r0 = adr t.pm ∧ r1 = adr t.ps ∧ r2 = adr t.pd ∧ r3 = adr t.pp ∧ r4 = adr t.pa)
  have l1 := cell_lt hx'
  have l2 := cell_lt a0
  have lb0 : b < w.heap.size + 1 := by omega
  have lb1 : b < w.heap.size + 1 + 1 := by omega
  have lb2 : b < w.heap.size + 1 + 1 + 1 := by omega
  have lb3 : b < w.heap.size + 1 + 1 + 1 + 1 := by omega
  have lg0 : g < w.heap.size + 1 := by omega
  have lg1 : g < w.heap.size + 1 + 1 := by omega
  have lg2 : g < w.heap.size + 1 + 1 + 1 := by omega
  have lg3 : g < w.heap.size + 1 + 1 + 1 + 1 := by omega
  have hmk := mkf
  obtain ⟨o5, p0, p1, p2, p3, p4⟩ := five w (e89 bs) (u95 (.slice sad sns.length scap) (.slice dad ds.length dcap)) #[.slice (some ⟨b, off, none⟩) aa.length cap] #[.func (.func 33) #[] #[.pointer (some ⟨w.heap.size + 1 + 1, 0, none⟩)]] #[.pointer r0, .pointer r1, .pointer r2, .pointer r3, .pointer r4, .bool t.ma] 89 95 41 103 59
  have HE := hide (h.old o5)
  have HO5 := hide o5
  have HP0 := hide p0
  have HP1 := hide p1
  have HP2 := hide p2
  have HP3 := hide p3
  have HP4 := hide p4
  have HM := hide hm
  rw [hm] at HE HO5 HP0 HP1 HP2 HP3 HP4 ⊢
  clear hk q0 q1 q2 q3 q4 p0 p1 p2 p3 p4 o5 h hx hm
  go_enter Try.func30, Try.ntmps30
  go_upto_region 5 with fail
  generalize (((((w.alloc (.cells (e89 bs) 89)).alloc (.cells (u95 (.slice sad sns.length scap) (.slice dad ds.length dcap)) 95)).alloc (.cells #[.slice (some ⟨b, off, none⟩) (m + 1) cap] 41)).alloc (.cells #[.func (.func 33) #[] #[.pointer (some ⟨w.heap.size + 1 + 1, 0, none⟩)]] 103)).alloc (.cells #[.pointer r0, .pointer r1, .pointer r2, .pointer r3, .pointer r4, .bool t.ma] 59)) = w5 at *
  clear a0 a2 a3 a4 a5 a6 a7 a8 hx'
  have E1 : (t.rej.toList == [115, 45, 110, 115, 115, 97, 105]) = false := by rw [show ([115, 45, 110, 115, 115, 97, 105] : List UInt8) = sB.toList by rw [ByteArray.toList_eq], toList_beq]; exact decide_eq_false hrej
  have E2 : (t.rej.toList == [100, 110, 110]) = false := by rw [show ([100, 110, 110] : List UInt8) = dB.toList by rw [ByteArray.toList_eq], toList_beq]; exact decide_eq_false hrej2
  clear hrej hrej2
  go_wp2_with (first
    | (go_at_call 25; refine (type25 _).mono ?_; rintro e w6 ⟨rfl, ho6⟩; have HO6 := hide ho6; clear ho6)
    | (go_at_call 24; refine (type24 _).mono ?_; rintro e w7 ⟨rfl, rfl⟩))
  go_ret
  exact ⟨rfl, HO5.out.trans HO6.out⟩
end Go.Proofs.Qxb6609239a.R
