import Derived.Test.Qxb6609239aFiveEnv
import Derived.Test.Qxb6609239aKeep
import Derived.Test.Qxb6609239aBytes
import Derived.Test.Qxb6609239aSum
namespace Go.Proofs.Qxb6609239a.R
open Go.RowKit
set_option linter.unusedVariables false
attribute [local go_sem ↓] Go.wp_at_zero Go.wp_at_succ
def Yes5 (w : World) (e : Ending) (w' : World) : Prop := e = .returned (.bool true) ∧ Old w w'
set_option maxRecDepth 100000 in
set_option maxHeartbeats 6400000 in
theorem law5 (al sns : List NS) (ds : List ByteArray) (ts : List TR) (lad sad dad ad : Option Addr) (lcap scap dcap cap lb loff sb soff db doff b off : Nat) (w : World)
    (hal : Row w 5 NS.cells al lad lb loff) (hsn : Row w 5 NS.cells sns sad sb soff) (hds : Row w 1 dcl ds dad db doff) (h : Row w 9 TR.cells ts ad b off) (hp : ∀ t ∈ ts, TOK w t) (hN : ∀ t ∈ ts, t.pd = none → t.dn.size ≤ 1048576)
    (nl : lad = none → lcap = 0) (ns : sad = none → scap = 0) (nd : dad = none → dcap = 0) :
    Calls Try.prog 5 #[.slice lad al.length lcap, .slice sad sns.length scap, .slice dad ds.length dcap, .slice ad ts.length cap] w fun e w' => Yes5 w e w' := by
  have HZ := hide (zz11 al sns ds ts lad sad dad ad lcap scap dcap cap db doff b off w hds h hp)
  have HS := hide (sum12 al sns ds ts lad sad dad ad lcap scap dcap cap db doff b off w hds h hp)
  have HAL := hide hal
  have HSN := hide hsn
  have HDS := hide hds
  have HR := hide h
  have HP := hide hp
  have HNO := hide hN
  have HNL := hide nl
  have HNS := hide ns
  have HND := hide nd
  clear hal hsn hds h hp hN nl ns nd
  have E1 : (0 : Int) ≤ al.length := by omega
  have E2 : (0 : Int) ≤ sns.length := by omega
  have E3 : (0 : Int) ≤ ds.length := by omega
  have E4 : (0 : Int) ≤ ts.length := by omega
  go_enter Try.func5, Try.ntmps5
  go_upto_region 1 with fail
  go_cut [20] (fun c wx => (c = .bool true ∨ c = .bool false ∧ Small ds ts) ∧ w = wx)
  case first =>
    go_wp2_with (go_at_call 11; refine HZ.out.mono ?_; rintro e w1 ⟨v, rfl, hv, rfl⟩; have HV := hide hv; clear hv)
    go_meet
    refine ⟨?_, rfl⟩
    cases v
    · exact .inl rfl
    · exact .inr ⟨rfl, HV.out rfl⟩
  case rest =>
  obtain ⟨hc, rfl⟩ := hcut
  rcases hc with rfl | ⟨rfl, hsm⟩
  · go_wp2
    go_ret
    exact ⟨rfl, Old.refl _⟩
  have HSM := hide hsm
  clear hsm
  by_cases c1 : (4096 : Int) < al.length
  · go_wp2
    go_ret
    exact ⟨rfl, Old.refl _⟩
  by_cases c2 : (4096 : Int) < sns.length
  · go_wp2
    go_ret
    exact ⟨rfl, Old.refl _⟩
  by_cases c3 : (4096 : Int) < ds.length
  · go_wp2
    go_ret
    exact ⟨rfl, Old.refl _⟩
  by_cases c4 : (4096 : Int) < ts.length
  · go_wp2
    go_ret
    exact ⟨rfl, Old.refl _⟩
  go_upto_region 5 with fail
  have HS2 := hide (HS.out (by omega) (by omega))
  go_cut [44] (fun c wx => (c = .bool true ∨ c = .bool false) ∧ w = wx)
  case first =>
    go_wp2_with (go_at_call 12; refine HS2.out.mono ?_; rintro e w1 ⟨n, rfl, rfl⟩)
    go_meet
    refine ⟨?_, rfl⟩
    cases decide ((1048576 : Int) < n)
    · exact .inr rfl
    · exact .inl rfl
  case rest =>
  obtain ⟨hc, rfl⟩ := hcut
  rcases hc with rfl | rfl
  · go_wp2
    go_ret
    exact ⟨rfl, Old.refl _⟩
  clear HZ HS HS2
  by_cases c5 : ts.length = 0
  · have c6 : ((ts.length : Int) == 0) = true := by rw [beq_iff_eq]; omega
    go_wp2
    go_ret
    exact ⟨rfl, Old.refl _⟩
  have c6 : ((ts.length : Int) == 0) = false := by rw [beq_eq_false_iff_ne]; omega
  obtain ⟨m, hm⟩ : ∃ m, ts.length = m + 1 := ⟨ts.length - 1, by omega⟩
  obtain ⟨base, hb⟩ : ∃ x, ts[m]? = some x := ⟨_, List.getElem?_eq_getElem (by omega)⟩
  have HM := hide hm
  have HB := hide hb
  have HZD : Hid (∀ d ∈ ds, d.size ≤ 1048576) := hide fun d hd => by
    obtain ⟨j, hj, rfl⟩ := List.mem_iff_getElem.1 hd
    exact HSM.out.d j _ (List.getElem?_eq_getElem hj)
  have HZT : Hid (∀ t ∈ ts, t.dn.size ≤ 1048576) := hide fun t ht => by
    cases hq : t.pd with
    | none => exact HNO.out t ht hq
    | some q =>
      obtain ⟨j, hj, rfl⟩ := List.mem_iff_getElem.1 ht
      exact HSM.out.t j _ (List.getElem?_eq_getElem hj) (by rw [hq]; rfl)
  obtain rfl := HR.out.at_ (by omega)
  have m1 : ((ts.length : Int) - 1) = m := by omega
  have m2 : (m : Int) < ts.length := by omega
  have HXC : Hid (∀ W, Old w W → (W.cell? ⟨b, off + m * 9, none⟩ = some (.int .u8 base.rule) ∧ W.cell? ⟨b, off + m * 9 + 1, none⟩ = some (.int .u8 base.route) ∧ W.cell? ⟨b, off + m * 9 + 2, none⟩ = some (.pointer (adr base.pm)) ∧ W.cell? ⟨b, off + m * 9 + 3, none⟩ = some (.pointer (adr base.ps)) ∧ W.cell? ⟨b, off + m * 9 + 4, none⟩ = some (.pointer (adr base.pd)) ∧ W.cell? ⟨b, off + m * 9 + 5, none⟩ = some (.pointer (adr base.pp)) ∧ W.cell? ⟨b, off + m * 9 + 6, none⟩ = some (.pointer (adr base.pa)) ∧ W.cell? ⟨b, off + m * 9 + 7, none⟩ = some (.bool base.ma) ∧ W.cell? ⟨b, off + m * 9 + 8, none⟩ = some (.string base.rej))) := hide fun W ho => ⟨ho.cell (HR.out.cell m base hb 0 _ rfl), ho.cell (HR.out.cell m base hb 1 _ rfl), ho.cell (HR.out.cell m base hb 2 _ rfl), ho.cell (HR.out.cell m base hb 3 _ rfl), ho.cell (HR.out.cell m base hb 4 _ rfl), ho.cell (HR.out.cell m base hb 5 _ rfl), ho.cell (HR.out.cell m base hb 6 _ rfl), ho.cell (HR.out.cell m base hb 7 _ rfl), ho.cell (HR.out.cell m base hb 8 _ rfl)⟩
  have HTB := hide (HP.out base (List.mem_of_getElem? hb))
  clear hb hm HNO
  go_upto_region 9 with fail
  by_cases hr : base.rej = sB
  · have HREJ := hide hr
    clear hr
    rcases idx_cases (qN al ts) sns with hk | ⟨k, n, hk, hd⟩
    · have HK := hide hk
      clear hk
      go_upto_region 11 with (first
        | (go_at_call_of 14 (Value.slice lad al.length lcap); refine (snssais14 al lad lb loff lcap w HAL.out HNL.out (by omega)).mono ?_; rintro e wa ⟨lad', lb', loff', lcap', rfl, ra, oa⟩; have HRA := hide ra; have HOA := hide oa; clear ra oa)
        | (go_at_call_of 14 (Value.slice sad sns.length scap); refine (snssais14 sns sad sb soff scap wa (HSN.out.old HOA.out) HNS.out (by omega)).mono ?_; rintro e wss ⟨sad', sb', soff', scap', rfl, ra, oa⟩; have HRS := hide ra; have HOS := hide oa; have HOWS := hide (HOA.out.trans oa); clear ra oa)
        | (go_at_call 15; refine (dnns15 ds dad db doff dcap wss (HDS.out.old HOWS.out) HND.out (by omega)).mono ?_; rintro e wd ⟨dad', db', doff', dcap', rfl, ra, oa⟩; have HRD := hide ra; have HOD := hide oa; have HOWD := hide (HOWS.out.trans oa); clear ra oa)
        | (go_at_call 16; refine (att16 ts (some ⟨b, off, none⟩) b off cap wd (HR.out.old HOWD.out) (fun t ht => (HP.out t ht).old HOWD.out) (by omega)).mono ?_; rintro e wt ⟨rfl, cur, aa, has⟩; have HIN : Hid (In al sns ds ts lad' lb' loff' sad' sb' soff' dad' db' doff' wd.heap.size aa wt) := hide ⟨HRA.out.old ((HOS.out.trans HOD.out).trans has.old), HRS.out.old (HOD.out.trans has.old), HRD.out.old has.old, has.row, fun a ha => has.ok a ha wt (fun _ _ _ => rfl), qN_eq has al, qD_eq has, has.len, has.like, (by omega), (by omega), (by omega), (by omega), HZD.out, HZT.out⟩; have HZZ := hide (HIN.out.zzSn (lcap := lcap') (scap := scap') (dcap := dcap') (cT := ts.length) HM.out HB.out HREJ.out HK.out); rw [has.len] at HZZ; have HOWT := hide (HOWD.out.trans has.old); clear has)
        | (go_at_call 13; refine HZZ.out.mono ?_; rintro x w1 ⟨q, rfl, rfl, ho1⟩; have HO1 := hide (HOWT.out.trans ho1); obtain ⟨x0, x1, x2, x3, x4, x5, x6, x7, x8⟩ := HXC.out w1 HO1.out; have lb1 := cell_lt x0; clear ho1))
      have HO2 : Hid (Old w (w1.alloc (.cells #[.int .u8 base.rule, .int .u8 base.route, .pointer (adr base.pm), .pointer (adr base.ps), .pointer (adr base.pd), .pointer (adr base.pp), .pointer (adr base.pa), .bool base.ma, .string base.rej] 47))) := hide (HO1.out.alloc _)
      have HBX : Hid (∀ f v, base.cells[f]? = some v → (w1.alloc (.cells #[.int .u8 base.rule, .int .u8 base.route, .pointer (adr base.pm), .pointer (adr base.ps), .pointer (adr base.pd), .pointer (adr base.pp), .pointer (adr base.pa), .bool base.ma, .string base.rej] 47)).cell? ⟨w1.heap.size, f, none⟩ = some v) := hide (alloc_row (cs := base.cells))
      have HO12 : Hid (Old w1 (w1.alloc (.cells #[.int .u8 base.rule, .int .u8 base.route, .pointer (adr base.pm), .pointer (adr base.ps), .pointer (adr base.pd), .pointer (adr base.pp), .pointer (adr base.pa), .bool base.ma, .string base.rej] 47))) := hide ((Old.refl w1).alloc _)
      generalize w1.alloc (.cells #[.int .u8 base.rule, .int .u8 base.route, .pointer (adr base.pm), .pointer (adr base.ps), .pointer (adr base.pd), .pointer (adr base.pp), .pointer (adr base.pa), .bool base.ma, .string base.rej] 47) = w2 at *
      generalize w1.heap.size = hb at *
      clear x0 x1 x2 x3 x4 x5 x6 x7 x8
      have x8 : w2.cell? ⟨hb, 8, none⟩ = some (.string sB) := by rw [← HREJ.out]; exact HBX.out 8 _ rfl
      have E5 : (sB.toList == sB.toList) = true := by rw [toList_beq]; decide
      have E6 : (dB.toList == dB.toList) = true := by rw [toList_beq]; decide
      go_wp2
      go_loopw [11, 12] (fun va vb w' => ∃ j : Nat, j ≤ sns.length ∧ va = .int .i64 (back (qN al ts) sns j) ∧ vb = .int .i64 ((j : Int) - 1) ∧ Hid (Old w2 w')) (fun _ v _ => (intOf v + 1).toNat)
      case atStart => exact ⟨sns.length, Nat.le_refl _, by rw [back_end], by first | rfl | go_num, hide (Old.refl _)⟩
      case round =>
      obtain ⟨j, hj, rfl, rfl, HL⟩ := hrel
      cases j with
      | succ i =>
        obtain ⟨x, hx⟩ : ∃ x, sns[i]? = some x := ⟨_, List.getElem?_eq_getElem (by omega)⟩
        have i0 : (((i + 1 : Nat) : Int) - 1) = (i : Int) := by omega
        have i1 : (i : Int) < sns.length := by omega
        have i2 : (0 : Int) ≤ (i : Int) := by omega
        rw [i0]
        have oo := HO2.out.trans HL.out
        have R := HSN.out.old oo
        have HOO := hide oo
        obtain rfl := R.at_ (by omega)
        have y0 : wr.cell? ⟨sb, soff + i * 5, none⟩ = _ := R.cell i x hx 0 _ rfl
        have y1 : wr.cell? ⟨sb, soff + i * 5 + 1, none⟩ = _ := R.cell i x hx 1 _ rfl
        have y2 : wr.cell? ⟨sb, soff + i * 5 + 2, none⟩ = _ := R.cell i x hx 2 _ rfl
        have y3 : wr.cell? ⟨sb, soff + i * 5 + 3, none⟩ = _ := R.cell i x hx 3 _ rfl
        have y4 : wr.cell? ⟨sb, soff + i * 5 + 4, none⟩ = _ := R.cell i x hx 4 _ rfl
        have HX := hide hx
        clear R oo i0
        cases hq1 : al.any (fun y => sameN y x)
        · have HQ : Hid (back (qN al ts) sns i = back (qN al ts) sns (i + 1)) := hide (by rw [back_step _ _ _ _ hx]; unfold qN; rw [hq1]; rfl)
          have H17 := hide (has17 al x lad lb loff lcap wr (HAL.out.old HOO.out) (by omega) false hq1)
          clear hq1 hx
          go_wp2_with (go_at_call 17; refine H17.out.mono ?_; rintro e w3 ⟨rfl, ho3⟩; have HO3 := hide ho3; clear ho3)
          go_roundw
          case rel => exact ⟨i, by omega, by rw [HQ.out], by first | rfl | go_num, hide (HL.out.trans HO3.out)⟩
          case measure => simp [intOf]
        · have H17 := hide (has17 al x lad lb loff lcap wr (HAL.out.old HOO.out) (by omega) true hq1)
          have H18 : Hid (∀ W v, Old wr W → ts.any (fun t => askN t x) = v → Calls Try.prog 18 #[.slice (some ⟨b, off, none⟩) ts.length cap, .agg x.cells] W fun e w' => e = .returned (.bool v) ∧ Old W w') := hide fun W v ho hv => asked18 ts x (some ⟨b, off, none⟩) b off cap W (HR.out.old (HOO.out.trans ho)) (fun t ht => (HP.out t ht).old (HOO.out.trans ho)) (by omega) v hv
          cases hq2 : ts.any (fun t => askN t x)
          · have HQ : Hid (back (qN al ts) sns i = (i : Int)) := hide (by rw [back_step _ _ _ _ hx]; unfold qN; rw [hq1, hq2]; rfl)
            have HV := hide hq2
            clear hq1 hq2 hx
            go_wp2_with (first | (go_at_call 17; refine H17.out.mono ?_; rintro e w3 ⟨rfl, ho3⟩; have HO3 := hide ho3; have z0 := ho3.cell y0; have z1 := ho3.cell y1; have z2 := ho3.cell y2; have z3 := ho3.cell y3; have z4 := ho3.cell y4; clear ho3) | (go_at_call 18; refine (H18.out _ false HO3.out HV.out).mono ?_; rintro e w4 ⟨rfl, ho4⟩; have HO4 := hide ho4; clear ho4))
            go_roundw
            case rel => exact ⟨i, by omega, by rw [HQ.out], by first | rfl | go_num, hide ((HL.out.trans HO3.out).trans HO4.out)⟩
            case measure => simp [intOf]
          · have HQ : Hid (back (qN al ts) sns i = back (qN al ts) sns (i + 1)) := hide (by rw [back_step _ _ _ _ hx]; unfold qN; rw [hq1, hq2]; rfl)
            have HV := hide hq2
            clear hq1 hq2 hx
            go_wp2_with (first | (go_at_call 17; refine H17.out.mono ?_; rintro e w3 ⟨rfl, ho3⟩; have HO3 := hide ho3; have z0 := ho3.cell y0; have z1 := ho3.cell y1; have z2 := ho3.cell y2; have z3 := ho3.cell y3; have z4 := ho3.cell y4; clear ho3) | (go_at_call 18; refine (H18.out _ true HO3.out HV.out).mono ?_; rintro e w4 ⟨rfl, ho4⟩; have HO4 := hide ho4; clear ho4))
            go_roundw
            case rel => exact ⟨i, by omega, by rw [HQ.out], by first | rfl | go_num, hide ((HL.out.trans HO3.out).trans HO4.out)⟩
            case measure => simp [intOf]
      | zero =>
        rw [back_zero, HK.out]
        go_wp2
        go_ret
        exact ⟨rfl, HO2.out.trans HL.out⟩
    · have HK := hide hk
      have HD := hide hd
      clear hk hd
      go_upto_region 11 with (first
        | (go_at_call_of 14 (Value.slice lad al.length lcap); refine (snssais14 al lad lb loff lcap w HAL.out HNL.out (by omega)).mono ?_; rintro e wa ⟨lad', lb', loff', lcap', rfl, ra, oa⟩; have HRA := hide ra; have HOA := hide oa; clear ra oa)
        | (go_at_call_of 14 (Value.slice sad sns.length scap); refine (snssais14 sns sad sb soff scap wa (HSN.out.old HOA.out) HNS.out (by omega)).mono ?_; rintro e wss ⟨sad', sb', soff', scap', rfl, ra, oa⟩; have HRS := hide ra; have HOS := hide oa; have HOWS := hide (HOA.out.trans oa); clear ra oa)
        | (go_at_call 15; refine (dnns15 ds dad db doff dcap wss (HDS.out.old HOWS.out) HND.out (by omega)).mono ?_; rintro e wd ⟨dad', db', doff', dcap', rfl, ra, oa⟩; have HRD := hide ra; have HOD := hide oa; have HOWD := hide (HOWS.out.trans oa); clear ra oa)
        | (go_at_call 16; refine (att16 ts (some ⟨b, off, none⟩) b off cap wd (HR.out.old HOWD.out) (fun t ht => (HP.out t ht).old HOWD.out) (by omega)).mono ?_; rintro e wt ⟨rfl, cur, aa, has⟩; have HIN : Hid (In al sns ds ts lad' lb' loff' sad' sb' soff' dad' db' doff' wd.heap.size aa wt) := hide ⟨HRA.out.old ((HOS.out.trans HOD.out).trans has.old), HRS.out.old (HOD.out.trans has.old), HRD.out.old has.old, has.row, fun a ha => has.ok a ha wt (fun _ _ _ => rfl), qN_eq has al, qD_eq has, has.len, has.like, (by omega), (by omega), (by omega), (by omega), HZD.out, HZT.out⟩; have HZZ := hide (HIN.out.zzS (lcap := lcap') (scap := scap') (dcap := dcap') (cT := ts.length) HM.out HB.out HREJ.out HK.out HD.out); rw [has.len] at HZZ; have HOWT := hide (HOWD.out.trans has.old); clear has)
        | (go_at_call 13; refine HZZ.out.mono ?_; rintro x w1 ⟨q, rfl, g1, la, rfl, hL, hg1, ht1, ho1⟩; have HO1 := hide (HOWT.out.trans ho1); have HL1 := hide hL; have HG1 := hide hg1; have HT1 := hide ht1; have HIN1 := hide (HIN.out.rsn.old ho1); have HIN2 := hide (HIN.out.rdn.old ho1); clear hL hg1 ht1; obtain ⟨x0, x1, x2, x3, x4, x5, x6, x7, x8⟩ := HXC.out w1 HO1.out; have lb1 := cell_lt x0; clear ho1))
      have HO2 : Hid (Old w (w1.alloc (.cells #[.int .u8 base.rule, .int .u8 base.route, .pointer (adr base.pm), .pointer (adr base.ps), .pointer (adr base.pd), .pointer (adr base.pp), .pointer (adr base.pa), .bool base.ma, .string base.rej] 47))) := hide (HO1.out.alloc _)
      have HBX : Hid (∀ f v, base.cells[f]? = some v → (w1.alloc (.cells #[.int .u8 base.rule, .int .u8 base.route, .pointer (adr base.pm), .pointer (adr base.ps), .pointer (adr base.pd), .pointer (adr base.pp), .pointer (adr base.pa), .bool base.ma, .string base.rej] 47)).cell? ⟨w1.heap.size, f, none⟩ = some v) := hide (alloc_row (cs := base.cells))
      have HO12 : Hid (Old w1 (w1.alloc (.cells #[.int .u8 base.rule, .int .u8 base.route, .pointer (adr base.pm), .pointer (adr base.ps), .pointer (adr base.pd), .pointer (adr base.pp), .pointer (adr base.pa), .bool base.ma, .string base.rej] 47))) := hide ((Old.refl w1).alloc _)
      generalize w1.alloc (.cells #[.int .u8 base.rule, .int .u8 base.route, .pointer (adr base.pm), .pointer (adr base.ps), .pointer (adr base.pd), .pointer (adr base.pp), .pointer (adr base.pa), .bool base.ma, .string base.rej] 47) = w2 at *
      generalize w1.heap.size = hb at *
      clear x0 x1 x2 x3 x4 x5 x6 x7 x8
      have x8 : w2.cell? ⟨hb, 8, none⟩ = some (.string sB) := by rw [← HREJ.out]; exact HBX.out 8 _ rfl
      have E5 : (sB.toList == sB.toList) = true := by rw [toList_beq]; decide
      have E6 : (dB.toList == dB.toList) = true := by rw [toList_beq]; decide
      go_wp2
      go_loopw [11, 12] (fun va vb w' => ∃ j : Nat, j ≤ sns.length ∧ va = .int .i64 (back (qN al ts) sns j) ∧ vb = .int .i64 ((j : Int) - 1) ∧ Hid (Old w2 w')) (fun _ v _ => (intOf v + 1).toNat)
      case atStart => exact ⟨sns.length, Nat.le_refl _, by rw [back_end], by first | rfl | go_num, hide (Old.refl _)⟩
      case round =>
      obtain ⟨j, hj, rfl, rfl, HL⟩ := hrel
      cases j with
      | succ i =>
        obtain ⟨x, hx⟩ : ∃ x, sns[i]? = some x := ⟨_, List.getElem?_eq_getElem (by omega)⟩
        have i0 : (((i + 1 : Nat) : Int) - 1) = (i : Int) := by omega
        have i1 : (i : Int) < sns.length := by omega
        have i2 : (0 : Int) ≤ (i : Int) := by omega
        rw [i0]
        have oo := HO2.out.trans HL.out
        have R := HSN.out.old oo
        have HOO := hide oo
        obtain rfl := R.at_ (by omega)
        have y0 : wr.cell? ⟨sb, soff + i * 5, none⟩ = _ := R.cell i x hx 0 _ rfl
        have y1 : wr.cell? ⟨sb, soff + i * 5 + 1, none⟩ = _ := R.cell i x hx 1 _ rfl
        have y2 : wr.cell? ⟨sb, soff + i * 5 + 2, none⟩ = _ := R.cell i x hx 2 _ rfl
        have y3 : wr.cell? ⟨sb, soff + i * 5 + 3, none⟩ = _ := R.cell i x hx 3 _ rfl
        have y4 : wr.cell? ⟨sb, soff + i * 5 + 4, none⟩ = _ := R.cell i x hx 4 _ rfl
        have HX := hide hx
        clear R oo i0
        cases hq1 : al.any (fun y => sameN y x)
        · have HQ : Hid (back (qN al ts) sns i = back (qN al ts) sns (i + 1)) := hide (by rw [back_step _ _ _ _ hx]; unfold qN; rw [hq1]; rfl)
          have H17 := hide (has17 al x lad lb loff lcap wr (HAL.out.old HOO.out) (by omega) false hq1)
          clear hq1 hx
          go_wp2_with (go_at_call 17; refine H17.out.mono ?_; rintro e w3 ⟨rfl, ho3⟩; have HO3 := hide ho3; clear ho3)
          go_roundw
          case rel => exact ⟨i, by omega, by rw [HQ.out], by first | rfl | go_num, hide (HL.out.trans HO3.out)⟩
          case measure => simp [intOf]
        · have H17 := hide (has17 al x lad lb loff lcap wr (HAL.out.old HOO.out) (by omega) true hq1)
          have H18 : Hid (∀ W v, Old wr W → ts.any (fun t => askN t x) = v → Calls Try.prog 18 #[.slice (some ⟨b, off, none⟩) ts.length cap, .agg x.cells] W fun e w' => e = .returned (.bool v) ∧ Old W w') := hide fun W v ho hv => asked18 ts x (some ⟨b, off, none⟩) b off cap W (HR.out.old (HOO.out.trans ho)) (fun t ht => (HP.out t ht).old (HOO.out.trans ho)) (by omega) v hv
          cases hq2 : ts.any (fun t => askN t x)
          · have HQ : Hid (back (qN al ts) sns i = (i : Int)) := hide (by rw [back_step _ _ _ _ hx]; unfold qN; rw [hq1, hq2]; rfl)
            have HV := hide hq2
            clear hq1 hq2 hx
            go_wp2_with (first | (go_at_call 17; refine H17.out.mono ?_; rintro e w3 ⟨rfl, ho3⟩; have HO3 := hide ho3; have z0 := ho3.cell y0; have z1 := ho3.cell y1; have z2 := ho3.cell y2; have z3 := ho3.cell y3; have z4 := ho3.cell y4; clear ho3) | (go_at_call 18; refine (H18.out _ false HO3.out HV.out).mono ?_; rintro e w4 ⟨rfl, ho4⟩; have HO4 := hide ho4; clear ho4))
            go_roundw
            case rel => exact ⟨i, by omega, by rw [HQ.out], by first | rfl | go_num, hide ((HL.out.trans HO3.out).trans HO4.out)⟩
            case measure => simp [intOf]
          · have HQ : Hid (back (qN al ts) sns i = back (qN al ts) sns (i + 1)) := hide (by rw [back_step _ _ _ _ hx]; unfold qN; rw [hq1, hq2]; rfl)
            have HV := hide hq2
            clear hq1 hq2 hx
            go_wp2_with (first | (go_at_call 17; refine H17.out.mono ?_; rintro e w3 ⟨rfl, ho3⟩; have HO3 := hide ho3; have z0 := ho3.cell y0; have z1 := ho3.cell y1; have z2 := ho3.cell y2; have z3 := ho3.cell y3; have z4 := ho3.cell y4; clear ho3) | (go_at_call 18; refine (H18.out _ true HO3.out HV.out).mono ?_; rintro e w4 ⟨rfl, ho4⟩; have HO4 := hide ho4; clear ho4))
            go_roundw
            case rel => exact ⟨i, by omega, by rw [HQ.out], by first | rfl | go_num, hide ((HL.out.trans HO3.out).trans HO4.out)⟩
            case measure => simp [intOf]
      | zero =>
        rw [back_zero, HK.out]
        have k0 : ¬ (k : Int) < 0 := by omega
        have k1 : (k : Int) < sns.length := by have := (List.getElem?_eq_some_iff.1 HD.out).1; omega
        have hkk : 0 < sns.length := by omega
        obtain rfl := HSN.out.at_ hkk
        clear hkk
        have HKS : Hid (∀ W, Old wr W → (W.cell? ⟨g1, 1, none⟩ = some (.pointer (some ⟨sb', soff' + k * 5, none⟩)) ∧ W.cell? ⟨sb', soff' + k * 5, none⟩ = some (.int .u8 n.a) ∧ W.cell? ⟨sb', soff' + k * 5 + 1, none⟩ = some (.int .u8 n.b) ∧ W.cell? ⟨sb', soff' + k * 5 + 2, none⟩ = some (.int .u8 n.c) ∧ W.cell? ⟨sb', soff' + k * 5 + 3, none⟩ = some (.int .u8 n.d) ∧ W.cell? ⟨sb', soff' + k * 5 + 4, none⟩ = some (.bool n.h) ∧ W.cell? ⟨sb, soff + k * 5, none⟩ = some (.int .u8 n.a) ∧ W.cell? ⟨sb, soff + k * 5 + 1, none⟩ = some (.int .u8 n.b) ∧ W.cell? ⟨sb, soff + k * 5 + 2, none⟩ = some (.int .u8 n.c) ∧ W.cell? ⟨sb, soff + k * 5 + 3, none⟩ = some (.int .u8 n.d) ∧ W.cell? ⟨sb, soff + k * 5 + 4, none⟩ = some (.bool n.h) ∧ W.cell? ⟨hb, 0, none⟩ = some (.int .u8 base.rule) ∧ W.cell? ⟨hb, 1, none⟩ = some (.int .u8 base.route) ∧ W.cell? ⟨hb, 2, none⟩ = some (ptr base.pm) ∧ W.cell? ⟨hb, 3, none⟩ = some (ptr base.ps) ∧ W.cell? ⟨hb, 4, none⟩ = some (ptr base.pd) ∧ W.cell? ⟨hb, 5, none⟩ = some (ptr base.pp) ∧ W.cell? ⟨hb, 6, none⟩ = some (ptr base.pa) ∧ W.cell? ⟨hb, 7, none⟩ = some (.bool base.ma) ∧ W.cell? ⟨hb, 8, none⟩ = some (.string base.rej))) := hide fun W ho => by
          have o2 := HL.out.trans ho
          have o1 := HO12.out.trans o2
          have oa := HO2.out.trans o2
          have hh := o1.heap HG1.out
          exact ⟨cell_of_row _ _ 1 _ _ _ hh, o1.cell (HIN1.out.cell k n HD.out 0 _ rfl), o1.cell (HIN1.out.cell k n HD.out 1 _ rfl), o1.cell (HIN1.out.cell k n HD.out 2 _ rfl), o1.cell (HIN1.out.cell k n HD.out 3 _ rfl), o1.cell (HIN1.out.cell k n HD.out 4 _ rfl), oa.cell (HSN.out.cell k n HD.out 0 _ rfl), oa.cell (HSN.out.cell k n HD.out 1 _ rfl), oa.cell (HSN.out.cell k n HD.out 2 _ rfl), oa.cell (HSN.out.cell k n HD.out 3 _ rfl), oa.cell (HSN.out.cell k n HD.out 4 _ rfl), o2.cell (HBX.out 0 _ rfl), o2.cell (HBX.out 1 _ rfl), o2.cell (HBX.out 2 _ rfl), o2.cell (HBX.out 3 _ rfl), o2.cell (HBX.out 4 _ rfl), o2.cell (HBX.out 5 _ rfl), o2.cell (HBX.out 6 _ rfl), o2.cell (HBX.out 7 _ rfl), o2.cell (HBX.out 8 _ rfl)⟩
        have HK20 : Hid (∀ W, Old wr W → Calls Try.prog 20 #[.pointer (some ⟨g1, 0, none⟩), .agg base.cells, .bool true, .bool false] W fun e w' => e = .returned (.bool true) ∧ Old W w') := hide fun W ho => by
          have o2 := HL.out.trans ho
          have o1 := HO12.out.trans o2
          have oa := HO2.out.trans o2
          have L := HL1.out
          exact keeps20a g1 base (withN la (sb', soff' + k * 5) n) W (fun f v hv => (cell_of_row _ _ f _ _ _ (o1.heap HG1.out)).trans hv) (HTB.out.old oa) (HT1.out.old o1) L.pm L.m L.pd L.dn L.pp L.p L.pa L.ac L.ma
        go_upto_region 21 with fail
        go_region_held3 (fun W => W.cell? ⟨g1, 1, none⟩ = some (.pointer (some ⟨sb', soff' + k * 5, none⟩)) ∧ W.cell? ⟨sb', soff' + k * 5, none⟩ = some (.int .u8 n.a) ∧ W.cell? ⟨sb', soff' + k * 5 + 1, none⟩ = some (.int .u8 n.b) ∧ W.cell? ⟨sb', soff' + k * 5 + 2, none⟩ = some (.int .u8 n.c) ∧ W.cell? ⟨sb', soff' + k * 5 + 3, none⟩ = some (.int .u8 n.d) ∧ W.cell? ⟨sb', soff' + k * 5 + 4, none⟩ = some (.bool n.h) ∧ W.cell? ⟨sb, soff + k * 5, none⟩ = some (.int .u8 n.a) ∧ W.cell? ⟨sb, soff + k * 5 + 1, none⟩ = some (.int .u8 n.b) ∧ W.cell? ⟨sb, soff + k * 5 + 2, none⟩ = some (.int .u8 n.c) ∧ W.cell? ⟨sb, soff + k * 5 + 3, none⟩ = some (.int .u8 n.d) ∧ W.cell? ⟨sb, soff + k * 5 + 4, none⟩ = some (.bool n.h) ∧ W.cell? ⟨hb, 0, none⟩ = some (.int .u8 base.rule) ∧ W.cell? ⟨hb, 1, none⟩ = some (.int .u8 base.route) ∧ W.cell? ⟨hb, 2, none⟩ = some (ptr base.pm) ∧ W.cell? ⟨hb, 3, none⟩ = some (ptr base.ps) ∧ W.cell? ⟨hb, 4, none⟩ = some (ptr base.pd) ∧ W.cell? ⟨hb, 5, none⟩ = some (ptr base.pp) ∧ W.cell? ⟨hb, 6, none⟩ = some (ptr base.pa) ∧ W.cell? ⟨hb, 7, none⟩ = some (.bool base.ma) ∧ W.cell? ⟨hb, 8, none⟩ = some (.string base.rej))
          (first | with_reducible exact HKS.out _ (Old.refl wr).drew | with_reducible exact HKS.out _ HO6.out | with_reducible exact HKS.out _ HO5.out)
          (first
            | (go_at_call 19; refine (fields19 n _).mono ?_; rintro e w5 ⟨rfl, ho'⟩; have HO5 := hide ho'.of_drew; clear ho')
            | (go_at_call 20; refine (HK20.out _ HO5.out).mono ?_; rintro e w6 ⟨rfl, ho'⟩; have HO6 := hide (HO5.out.trans ho'); clear ho'))
        all_goals
          go_wp2
          go_ret
          exact ⟨ret_bool (by simp), (HO2.out.trans HL.out).trans HO6.out⟩
  by_cases hr2 : base.rej = dB
  · have HREJ := hide hr2
    clear hr hr2
    rcases idx_cases (qD ts) ds with hk | ⟨k, d, hk, hd⟩
    · have HK := hide hk
      clear hk
      go_upto_region 11 with (first
        | (go_at_call_of 14 (Value.slice lad al.length lcap); refine (snssais14 al lad lb loff lcap w HAL.out HNL.out (by omega)).mono ?_; rintro e wa ⟨lad', lb', loff', lcap', rfl, ra, oa⟩; have HRA := hide ra; have HOA := hide oa; clear ra oa)
        | (go_at_call_of 14 (Value.slice sad sns.length scap); refine (snssais14 sns sad sb soff scap wa (HSN.out.old HOA.out) HNS.out (by omega)).mono ?_; rintro e wss ⟨sad', sb', soff', scap', rfl, ra, oa⟩; have HRS := hide ra; have HOS := hide oa; have HOWS := hide (HOA.out.trans oa); clear ra oa)
        | (go_at_call 15; refine (dnns15 ds dad db doff dcap wss (HDS.out.old HOWS.out) HND.out (by omega)).mono ?_; rintro e wd ⟨dad', db', doff', dcap', rfl, ra, oa⟩; have HRD := hide ra; have HOD := hide oa; have HOWD := hide (HOWS.out.trans oa); clear ra oa)
        | (go_at_call 16; refine (att16 ts (some ⟨b, off, none⟩) b off cap wd (HR.out.old HOWD.out) (fun t ht => (HP.out t ht).old HOWD.out) (by omega)).mono ?_; rintro e wt ⟨rfl, cur, aa, has⟩; have HIN : Hid (In al sns ds ts lad' lb' loff' sad' sb' soff' dad' db' doff' wd.heap.size aa wt) := hide ⟨HRA.out.old ((HOS.out.trans HOD.out).trans has.old), HRS.out.old (HOD.out.trans has.old), HRD.out.old has.old, has.row, fun a ha => has.ok a ha wt (fun _ _ _ => rfl), qN_eq has al, qD_eq has, has.len, has.like, (by omega), (by omega), (by omega), (by omega), HZD.out, HZT.out⟩; have HZZ := hide (HIN.out.zzDn (lcap := lcap') (scap := scap') (dcap := dcap') (cT := ts.length) HM.out HB.out HREJ.out HK.out); rw [has.len] at HZZ; have HOWT := hide (HOWD.out.trans has.old); clear has)
        | (go_at_call 13; refine HZZ.out.mono ?_; rintro x w1 ⟨q, rfl, rfl, ho1⟩; have HO1 := hide (HOWT.out.trans ho1); obtain ⟨x0, x1, x2, x3, x4, x5, x6, x7, x8⟩ := HXC.out w1 HO1.out; have lb1 := cell_lt x0; clear ho1))
      have HO2 : Hid (Old w (w1.alloc (.cells #[.int .u8 base.rule, .int .u8 base.route, .pointer (adr base.pm), .pointer (adr base.ps), .pointer (adr base.pd), .pointer (adr base.pp), .pointer (adr base.pa), .bool base.ma, .string base.rej] 47))) := hide (HO1.out.alloc _)
      have HBX : Hid (∀ f v, base.cells[f]? = some v → (w1.alloc (.cells #[.int .u8 base.rule, .int .u8 base.route, .pointer (adr base.pm), .pointer (adr base.ps), .pointer (adr base.pd), .pointer (adr base.pp), .pointer (adr base.pa), .bool base.ma, .string base.rej] 47)).cell? ⟨w1.heap.size, f, none⟩ = some v) := hide (alloc_row (cs := base.cells))
      have HO12 : Hid (Old w1 (w1.alloc (.cells #[.int .u8 base.rule, .int .u8 base.route, .pointer (adr base.pm), .pointer (adr base.ps), .pointer (adr base.pd), .pointer (adr base.pp), .pointer (adr base.pa), .bool base.ma, .string base.rej] 47))) := hide ((Old.refl w1).alloc _)
      generalize w1.alloc (.cells #[.int .u8 base.rule, .int .u8 base.route, .pointer (adr base.pm), .pointer (adr base.ps), .pointer (adr base.pd), .pointer (adr base.pp), .pointer (adr base.pa), .bool base.ma, .string base.rej] 47) = w2 at *
      generalize w1.heap.size = hb at *
      clear x0 x1 x2 x3 x4 x5 x6 x7 x8
      have x8 : w2.cell? ⟨hb, 8, none⟩ = some (.string dB) := by rw [← HREJ.out]; exact HBX.out 8 _ rfl
      have E5 : (dB.toList == sB.toList) = false := by rw [toList_beq]; decide
      have E6 : (dB.toList == dB.toList) = true := by rw [toList_beq]; decide
      go_wp2
      go_loopw [13, 14] (fun va vb w' => ∃ j : Nat, j ≤ ds.length ∧ va = .int .i64 (back (qD ts) ds j) ∧ vb = .int .i64 ((j : Int) - 1) ∧ Hid (Old w2 w')) (fun _ v _ => (intOf v + 1).toNat)
      case atStart => exact ⟨ds.length, Nat.le_refl _, by rw [back_end], by first | rfl | go_num, hide (Old.refl _)⟩
      case round =>
      obtain ⟨j, hj, rfl, rfl, HL⟩ := hrel
      cases j with
      | succ i =>
        obtain ⟨x, hx⟩ : ∃ x, ds[i]? = some x := ⟨_, List.getElem?_eq_getElem (by omega)⟩
        have i0 : (((i + 1 : Nat) : Int) - 1) = (i : Int) := by omega
        have i1 : (i : Int) < ds.length := by omega
        have i2 : (0 : Int) ≤ (i : Int) := by omega
        rw [i0]
        have oo := HO2.out.trans HL.out
        have R := HDS.out.old oo
        have HOO := hide oo
        obtain rfl := R.at_ (by omega)
        have y0 : wr.cell? ⟨db, doff + i, none⟩ = some (.string x) := by have := R.cell i x hx 0 _ rfl; simpa using this
        have HX := hide hx
        clear R oo i0
        have hsz := HSM.out.d i x hx
        have H21 : Hid (∀ v, ts.any (fun t => askD t x) = v → Calls Try.prog 21 #[.slice (some ⟨b, off, none⟩) ts.length cap, .string x] wr fun e w' => e = .returned (.bool v) ∧ Old wr w') := hide fun v hv => asked21 ts x (some ⟨b, off, none⟩) b off cap wr (HR.out.old HOO.out) (fun t ht => (HP.out t ht).old HOO.out) HZT.out hsz (by omega) v hv
        cases hq2 : ts.any (fun t => askD t x)
        · have HQ : Hid (back (qD ts) ds i = (i : Int)) := hide (by rw [back_step _ _ _ _ hx]; unfold qD; rw [hq2]; rfl)
          have HV := hide hq2
          clear hq2 hx
          go_wp2_with (go_at_call 21; refine (H21.out false HV.out).mono ?_; rintro e w4 ⟨rfl, ho4⟩; have HO4 := hide ho4; clear ho4)
          go_roundw
          case rel => exact ⟨i, by omega, by rw [HQ.out], by first | rfl | go_num, hide (HL.out.trans HO4.out)⟩
          case measure => simp [intOf]
        · have HQ : Hid (back (qD ts) ds i = back (qD ts) ds (i + 1)) := hide (by rw [back_step _ _ _ _ hx]; unfold qD; rw [hq2]; rfl)
          have HV := hide hq2
          clear hq2 hx
          go_wp2_with (go_at_call 21; refine (H21.out true HV.out).mono ?_; rintro e w4 ⟨rfl, ho4⟩; have HO4 := hide ho4; clear ho4)
          go_roundw
          case rel => exact ⟨i, by omega, by rw [HQ.out], by first | rfl | go_num, hide (HL.out.trans HO4.out)⟩
          case measure => simp [intOf]
      | zero =>
        rw [back_zero, HK.out]
        go_wp2
        go_ret
        exact ⟨rfl, HO2.out.trans HL.out⟩
    · have HK := hide hk
      have HD := hide hd
      clear hk hd
      go_upto_region 11 with (first
        | (go_at_call_of 14 (Value.slice lad al.length lcap); refine (snssais14 al lad lb loff lcap w HAL.out HNL.out (by omega)).mono ?_; rintro e wa ⟨lad', lb', loff', lcap', rfl, ra, oa⟩; have HRA := hide ra; have HOA := hide oa; clear ra oa)
        | (go_at_call_of 14 (Value.slice sad sns.length scap); refine (snssais14 sns sad sb soff scap wa (HSN.out.old HOA.out) HNS.out (by omega)).mono ?_; rintro e wss ⟨sad', sb', soff', scap', rfl, ra, oa⟩; have HRS := hide ra; have HOS := hide oa; have HOWS := hide (HOA.out.trans oa); clear ra oa)
        | (go_at_call 15; refine (dnns15 ds dad db doff dcap wss (HDS.out.old HOWS.out) HND.out (by omega)).mono ?_; rintro e wd ⟨dad', db', doff', dcap', rfl, ra, oa⟩; have HRD := hide ra; have HOD := hide oa; have HOWD := hide (HOWS.out.trans oa); clear ra oa)
        | (go_at_call 16; refine (att16 ts (some ⟨b, off, none⟩) b off cap wd (HR.out.old HOWD.out) (fun t ht => (HP.out t ht).old HOWD.out) (by omega)).mono ?_; rintro e wt ⟨rfl, cur, aa, has⟩; have HIN : Hid (In al sns ds ts lad' lb' loff' sad' sb' soff' dad' db' doff' wd.heap.size aa wt) := hide ⟨HRA.out.old ((HOS.out.trans HOD.out).trans has.old), HRS.out.old (HOD.out.trans has.old), HRD.out.old has.old, has.row, fun a ha => has.ok a ha wt (fun _ _ _ => rfl), qN_eq has al, qD_eq has, has.len, has.like, (by omega), (by omega), (by omega), (by omega), HZD.out, HZT.out⟩; have HZZ := hide (HIN.out.zzD (lcap := lcap') (scap := scap') (dcap := dcap') (cT := ts.length) HM.out HB.out HREJ.out HK.out HD.out); rw [has.len] at HZZ; have HOWT := hide (HOWD.out.trans has.old); clear has)
        | (go_at_call 13; refine HZZ.out.mono ?_; rintro x w1 ⟨q, rfl, g1, la, rfl, hL, hg1, ht1, ho1⟩; have HO1 := hide (HOWT.out.trans ho1); have HL1 := hide hL; have HG1 := hide hg1; have HT1 := hide ht1; have HIN1 := hide (HIN.out.rsn.old ho1); have HIN2 := hide (HIN.out.rdn.old ho1); clear hL hg1 ht1; obtain ⟨x0, x1, x2, x3, x4, x5, x6, x7, x8⟩ := HXC.out w1 HO1.out; have lb1 := cell_lt x0; clear ho1))
      have HO2 : Hid (Old w (w1.alloc (.cells #[.int .u8 base.rule, .int .u8 base.route, .pointer (adr base.pm), .pointer (adr base.ps), .pointer (adr base.pd), .pointer (adr base.pp), .pointer (adr base.pa), .bool base.ma, .string base.rej] 47))) := hide (HO1.out.alloc _)
      have HBX : Hid (∀ f v, base.cells[f]? = some v → (w1.alloc (.cells #[.int .u8 base.rule, .int .u8 base.route, .pointer (adr base.pm), .pointer (adr base.ps), .pointer (adr base.pd), .pointer (adr base.pp), .pointer (adr base.pa), .bool base.ma, .string base.rej] 47)).cell? ⟨w1.heap.size, f, none⟩ = some v) := hide (alloc_row (cs := base.cells))
      have HO12 : Hid (Old w1 (w1.alloc (.cells #[.int .u8 base.rule, .int .u8 base.route, .pointer (adr base.pm), .pointer (adr base.ps), .pointer (adr base.pd), .pointer (adr base.pp), .pointer (adr base.pa), .bool base.ma, .string base.rej] 47))) := hide ((Old.refl w1).alloc _)
      generalize w1.alloc (.cells #[.int .u8 base.rule, .int .u8 base.route, .pointer (adr base.pm), .pointer (adr base.ps), .pointer (adr base.pd), .pointer (adr base.pp), .pointer (adr base.pa), .bool base.ma, .string base.rej] 47) = w2 at *
      generalize w1.heap.size = hb at *
      clear x0 x1 x2 x3 x4 x5 x6 x7 x8
      have x8 : w2.cell? ⟨hb, 8, none⟩ = some (.string dB) := by rw [← HREJ.out]; exact HBX.out 8 _ rfl
      have E5 : (dB.toList == sB.toList) = false := by rw [toList_beq]; decide
      have E6 : (dB.toList == dB.toList) = true := by rw [toList_beq]; decide
      go_wp2
      go_loopw [13, 14] (fun va vb w' => ∃ j : Nat, j ≤ ds.length ∧ va = .int .i64 (back (qD ts) ds j) ∧ vb = .int .i64 ((j : Int) - 1) ∧ Hid (Old w2 w')) (fun _ v _ => (intOf v + 1).toNat)
      case atStart => exact ⟨ds.length, Nat.le_refl _, by rw [back_end], by first | rfl | go_num, hide (Old.refl _)⟩
      case round =>
      obtain ⟨j, hj, rfl, rfl, HL⟩ := hrel
      cases j with
      | succ i =>
        obtain ⟨x, hx⟩ : ∃ x, ds[i]? = some x := ⟨_, List.getElem?_eq_getElem (by omega)⟩
        have i0 : (((i + 1 : Nat) : Int) - 1) = (i : Int) := by omega
        have i1 : (i : Int) < ds.length := by omega
        have i2 : (0 : Int) ≤ (i : Int) := by omega
        rw [i0]
        have oo := HO2.out.trans HL.out
        have R := HDS.out.old oo
        have HOO := hide oo
        obtain rfl := R.at_ (by omega)
        have y0 : wr.cell? ⟨db, doff + i, none⟩ = some (.string x) := by have := R.cell i x hx 0 _ rfl; simpa using this
        have HX := hide hx
        clear R oo i0
        have hsz := HSM.out.d i x hx
        have H21 : Hid (∀ v, ts.any (fun t => askD t x) = v → Calls Try.prog 21 #[.slice (some ⟨b, off, none⟩) ts.length cap, .string x] wr fun e w' => e = .returned (.bool v) ∧ Old wr w') := hide fun v hv => asked21 ts x (some ⟨b, off, none⟩) b off cap wr (HR.out.old HOO.out) (fun t ht => (HP.out t ht).old HOO.out) HZT.out hsz (by omega) v hv
        cases hq2 : ts.any (fun t => askD t x)
        · have HQ : Hid (back (qD ts) ds i = (i : Int)) := hide (by rw [back_step _ _ _ _ hx]; unfold qD; rw [hq2]; rfl)
          have HV := hide hq2
          clear hq2 hx
          go_wp2_with (go_at_call 21; refine (H21.out false HV.out).mono ?_; rintro e w4 ⟨rfl, ho4⟩; have HO4 := hide ho4; clear ho4)
          go_roundw
          case rel => exact ⟨i, by omega, by rw [HQ.out], by first | rfl | go_num, hide (HL.out.trans HO4.out)⟩
          case measure => simp [intOf]
        · have HQ : Hid (back (qD ts) ds i = back (qD ts) ds (i + 1)) := hide (by rw [back_step _ _ _ _ hx]; unfold qD; rw [hq2]; rfl)
          have HV := hide hq2
          clear hq2 hx
          go_wp2_with (go_at_call 21; refine (H21.out true HV.out).mono ?_; rintro e w4 ⟨rfl, ho4⟩; have HO4 := hide ho4; clear ho4)
          go_roundw
          case rel => exact ⟨i, by omega, by rw [HQ.out], by first | rfl | go_num, hide (HL.out.trans HO4.out)⟩
          case measure => simp [intOf]
      | zero =>
        rw [back_zero, HK.out]
        have k0 : ¬ (k : Int) < 0 := by omega
        have k1 : (k : Int) < ds.length := by have := (List.getElem?_eq_some_iff.1 HD.out).1; omega
        have hkk : 0 < ds.length := by omega
        obtain rfl := HDS.out.at_ hkk
        clear hkk
        have E7 : (d.toList == d.toList) = true := by simp
        have HKS : Hid (∀ W, Old wr W → (W.cell? ⟨g1, 2, none⟩ = some (.pointer (some ⟨db', doff' + k, none⟩)) ∧ W.cell? ⟨db', doff' + k, none⟩ = some (.string d) ∧ W.cell? ⟨db, doff + k, none⟩ = some (.string d) ∧ W.cell? ⟨hb, 0, none⟩ = some (.int .u8 base.rule) ∧ W.cell? ⟨hb, 1, none⟩ = some (.int .u8 base.route) ∧ W.cell? ⟨hb, 2, none⟩ = some (ptr base.pm) ∧ W.cell? ⟨hb, 3, none⟩ = some (ptr base.ps) ∧ W.cell? ⟨hb, 4, none⟩ = some (ptr base.pd) ∧ W.cell? ⟨hb, 5, none⟩ = some (ptr base.pp) ∧ W.cell? ⟨hb, 6, none⟩ = some (ptr base.pa) ∧ W.cell? ⟨hb, 7, none⟩ = some (.bool base.ma) ∧ W.cell? ⟨hb, 8, none⟩ = some (.string base.rej))) := hide fun W ho => by
          have o2 := HL.out.trans ho
          have o1 := HO12.out.trans o2
          have oa := HO2.out.trans o2
          have hh := o1.heap HG1.out
          exact ⟨cell_of_row _ _ 2 _ _ _ hh, (by have := o1.cell (HIN2.out.cell k d HD.out 0 _ rfl); simpa using this), (by have := oa.cell (HDS.out.cell k d HD.out 0 _ rfl); simpa using this), o2.cell (HBX.out 0 _ rfl), o2.cell (HBX.out 1 _ rfl), o2.cell (HBX.out 2 _ rfl), o2.cell (HBX.out 3 _ rfl), o2.cell (HBX.out 4 _ rfl), o2.cell (HBX.out 5 _ rfl), o2.cell (HBX.out 6 _ rfl), o2.cell (HBX.out 7 _ rfl), o2.cell (HBX.out 8 _ rfl)⟩
        have HK20 : Hid (∀ W, Old wr W → Calls Try.prog 20 #[.pointer (some ⟨g1, 0, none⟩), .agg base.cells, .bool false, .bool true] W fun e w' => e = .returned (.bool true) ∧ Old W w') := hide fun W ho => by
          have o2 := HL.out.trans ho
          have o1 := HO12.out.trans o2
          have oa := HO2.out.trans o2
          have L := HL1.out
          exact keeps20b g1 base (withD la (db', doff' + k) d) W (fun f v hv => (cell_of_row _ _ f _ _ _ (o1.heap HG1.out)).trans hv) (HTB.out.old oa) (HT1.out.old o1) L.pm L.m L.ps L.n L.pp L.p L.pa L.ac L.ma
        go_upto_region 31 with fail
        go_region_held3 (fun W => W.cell? ⟨g1, 2, none⟩ = some (.pointer (some ⟨db', doff' + k, none⟩)) ∧ W.cell? ⟨db', doff' + k, none⟩ = some (.string d) ∧ W.cell? ⟨db, doff + k, none⟩ = some (.string d) ∧ W.cell? ⟨hb, 0, none⟩ = some (.int .u8 base.rule) ∧ W.cell? ⟨hb, 1, none⟩ = some (.int .u8 base.route) ∧ W.cell? ⟨hb, 2, none⟩ = some (ptr base.pm) ∧ W.cell? ⟨hb, 3, none⟩ = some (ptr base.ps) ∧ W.cell? ⟨hb, 4, none⟩ = some (ptr base.pd) ∧ W.cell? ⟨hb, 5, none⟩ = some (ptr base.pp) ∧ W.cell? ⟨hb, 6, none⟩ = some (ptr base.pa) ∧ W.cell? ⟨hb, 7, none⟩ = some (.bool base.ma) ∧ W.cell? ⟨hb, 8, none⟩ = some (.string base.rej))
          (first | with_reducible exact HKS.out _ (Old.refl wr).drew | with_reducible exact HKS.out _ HO6.out)
          (first
            | (go_at_call 20; refine (HK20.out _ (Old.refl wr).drew).mono ?_; rintro e w6 ⟨rfl, ho'⟩; have HO6 := hide ho'.of_drew; clear ho'))
        all_goals
          go_wp2
          go_ret
          exact ⟨ret_bool (by simp), (HO2.out.trans HL.out).trans HO6.out⟩
  have hr1 := hr
  clear hr
  go_upto_region 11 with (first
    | (go_at_call_of 14 (Value.slice lad al.length lcap); refine (snssais14 al lad lb loff lcap w HAL.out HNL.out (by omega)).mono ?_; rintro e wa ⟨lad', lb', loff', lcap', rfl, ra, oa⟩; have HRA := hide ra; have HOA := hide oa; clear ra oa)
    | (go_at_call_of 14 (Value.slice sad sns.length scap); refine (snssais14 sns sad sb soff scap wa (HSN.out.old HOA.out) HNS.out (by omega)).mono ?_; rintro e wss ⟨sad', sb', soff', scap', rfl, ra, oa⟩; have HRS := hide ra; have HOS := hide oa; have HOWS := hide (HOA.out.trans oa); clear ra oa)
    | (go_at_call 15; refine (dnns15 ds dad db doff dcap wss (HDS.out.old HOWS.out) HND.out (by omega)).mono ?_; rintro e wd ⟨dad', db', doff', dcap', rfl, ra, oa⟩; have HRD := hide ra; have HOD := hide oa; have HOWD := hide (HOWS.out.trans oa); clear ra oa)
    | (go_at_call 16; refine (att16 ts (some ⟨b, off, none⟩) b off cap wd (HR.out.old HOWD.out) (fun t ht => (HP.out t ht).old HOWD.out) (by omega)).mono ?_; rintro e wt ⟨rfl, cur, aa, has⟩; have HIN : Hid (In al sns ds ts lad' lb' loff' sad' sb' soff' dad' db' doff' wd.heap.size aa wt) := hide ⟨HRA.out.old ((HOS.out.trans HOD.out).trans has.old), HRS.out.old (HOD.out.trans has.old), HRD.out.old has.old, has.row, fun a ha => has.ok a ha wt (fun _ _ _ => rfl), qN_eq has al, qD_eq has, has.len, has.like, (by omega), (by omega), (by omega), (by omega), HZD.out, HZT.out⟩; have HZZ := hide (HIN.out.zzX (lcap := lcap') (scap := scap') (dcap := dcap') (cT := ts.length) HM.out HB.out hr1 hr2); rw [has.len] at HZZ; have HOWT := hide (HOWD.out.trans has.old); clear has)
    | (go_at_call 13; refine HZZ.out.mono ?_; rintro x w1 ⟨q, rfl, rfl, ho1⟩; have HO1 := hide (HOWT.out.trans ho1); obtain ⟨x0, x1, x2, x3, x4, x5, x6, x7, x8⟩ := HXC.out w1 HO1.out; have lb1 := cell_lt x0; clear ho1))
  have HO2 : Hid (Old w (w1.alloc (.cells #[.int .u8 base.rule, .int .u8 base.route, .pointer (adr base.pm), .pointer (adr base.ps), .pointer (adr base.pd), .pointer (adr base.pp), .pointer (adr base.pa), .bool base.ma, .string base.rej] 47))) := hide (HO1.out.alloc _)
  have HBX : Hid (∀ f v, base.cells[f]? = some v → (w1.alloc (.cells #[.int .u8 base.rule, .int .u8 base.route, .pointer (adr base.pm), .pointer (adr base.ps), .pointer (adr base.pd), .pointer (adr base.pp), .pointer (adr base.pa), .bool base.ma, .string base.rej] 47)).cell? ⟨w1.heap.size, f, none⟩ = some v) := hide (alloc_row (cs := base.cells))
  have HO12 : Hid (Old w1 (w1.alloc (.cells #[.int .u8 base.rule, .int .u8 base.route, .pointer (adr base.pm), .pointer (adr base.ps), .pointer (adr base.pd), .pointer (adr base.pp), .pointer (adr base.pa), .bool base.ma, .string base.rej] 47))) := hide ((Old.refl w1).alloc _)
  generalize w1.alloc (.cells #[.int .u8 base.rule, .int .u8 base.route, .pointer (adr base.pm), .pointer (adr base.ps), .pointer (adr base.pd), .pointer (adr base.pp), .pointer (adr base.pa), .bool base.ma, .string base.rej] 47) = w2 at *
  generalize w1.heap.size = hb at *
  clear x0 x1 x2 x3 x4 x5 x6 x7 x8
  have x8 : w2.cell? ⟨hb, 8, none⟩ = some (.string base.rej) := HBX.out 8 _ rfl
  have E5 : (base.rej.toList == [115, 45, 110, 115, 115, 97, 105]) = false := by rw [show ([115, 45, 110, 115, 115, 97, 105] : List UInt8) = sB.toList by rw [ByteArray.toList_eq], toList_beq]; exact decide_eq_false hr1
  have E6 : (base.rej.toList == [100, 110, 110]) = false := by rw [show ([100, 110, 110] : List UInt8) = dB.toList by rw [ByteArray.toList_eq], toList_beq]; exact decide_eq_false hr2
  clear hr1 hr2
  go_wp2
  go_ret
  exact ⟨rfl, HO2.out⟩
end Go.Proofs.Qxb6609239a.R
