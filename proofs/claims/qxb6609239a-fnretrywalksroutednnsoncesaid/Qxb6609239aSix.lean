import Derived.Test.Qxb6609239aStep
import Derived.Test.Qxb6609239aKeep
import Derived.Test.Qxb6609239aBytes
import Derived.Test.Qxb6609239aSum
namespace Go.Proofs.Qxb6609239a.R
open Go.RowKit
set_option linter.unusedVariables false
attribute [local go_sem ↓] Go.wp_at_zero Go.wp_at_succ
def Yes (w : World) (e : Ending) (w' : World) : Prop := e = .returned (.bool true) ∧ Old w w'
def nextT (base t : TR) (q : Nat × Nat) (d : ByteArray) : TR := { t with rule := base.rule, route := base.route, pd := some q, dn := d, rej := dB }
set_option maxRecDepth 100000 in
set_option maxHeartbeats 6400000 in
theorem law6 (al sns : List NS) (ds : List ByteArray) (ts : List TR) (lad sad dad ad : Option Addr) (lcap scap dcap cap lb loff sb soff db doff b off : Nat) (w : World)
    (hal : Row w 5 NS.cells al lad lb loff) (hsn : Row w 5 NS.cells sns sad sb soff) (hds : Row w 1 dcl ds dad db doff) (h : Row w 9 TR.cells ts ad b off) (hp : ∀ t ∈ ts, TOK w t) (hN : ∀ t ∈ ts, t.pd = none → t.dn.size ≤ 1048576)
    (nl : lad = none → lcap = 0) (ns : sad = none → scap = 0) (nd : dad = none → dcap = 0) :
    Calls Try.prog 6 #[.slice lad al.length lcap, .slice sad sns.length scap, .slice dad ds.length dcap, .slice ad ts.length cap] w fun e w' => Yes w e w' := by
  have HZ := hide (zz22 al sns ds ts lad sad dad ad lcap scap dcap cap db doff b off w hds h hp)
  have HS := hide (sum12 al sns ds ts lad sad dad ad lcap scap dcap cap db doff b off w hds h hp)
  have HAL := hide hal
  have HSN := hide hsn
  have HDS := hide hds
  have HR := hide h
  have HP := hide hp
  have HNO := hide hN
  have HNL := hide nl
  have HNS := hide ns
  have HND := hide nd
  clear hal hsn hds h hp hN nl ns nd
  have E1 : (0 : Int) ≤ al.length := by omega
  have E2 : (0 : Int) ≤ sns.length := by omega
  have E3 : (0 : Int) ≤ ds.length := by omega
  have E4 : (0 : Int) ≤ ts.length := by omega
  go_enter Try.func6, Try.ntmps6
  go_upto_region 1 with fail
  go_cut [29] (fun c wx => (c = .bool true ∨ c = .bool false ∧ Small ds ts) ∧ w = wx)
  case first =>
    go_wp2_with (go_at_call 22; refine HZ.out.mono ?_; rintro e w1 ⟨v, rfl, hv, rfl⟩; have HV := hide hv; clear hv)
    go_meet
    refine ⟨?_, rfl⟩
    cases v
    · exact .inl rfl
    · exact .inr ⟨rfl, HV.out rfl⟩
  case rest =>
  obtain ⟨hc, rfl⟩ := hcut
  rcases hc with rfl | ⟨rfl, hsm⟩
  · go_wp2
    go_ret
    exact ⟨rfl, Old.refl _⟩
  have HSM := hide hsm
  clear hsm
  by_cases c1 : (4096 : Int) < al.length
  · go_wp2
    go_ret
    exact ⟨rfl, Old.refl _⟩
  by_cases c2 : (4096 : Int) < sns.length
  · go_wp2
    go_ret
    exact ⟨rfl, Old.refl _⟩
  by_cases c3 : (512 : Int) < ds.length
  · go_wp2
    go_ret
    exact ⟨rfl, Old.refl _⟩
  by_cases c4 : (4096 : Int) < ts.length
  · go_wp2
    go_ret
    exact ⟨rfl, Old.refl _⟩
  go_upto_region 5 with fail
  have HS2 := hide (HS.out (by omega) (by omega))
  go_cut [53] (fun c wx => (c = .bool true ∨ c = .bool false) ∧ w = wx)
  case first =>
    go_wp2_with (go_at_call 12; refine HS2.out.mono ?_; rintro e w1 ⟨n, rfl, rfl⟩)
    go_meet
    refine ⟨?_, rfl⟩
    cases decide ((1048576 : Int) < n)
    · exact .inr rfl
    · exact .inl rfl
  case rest =>
  obtain ⟨hc, rfl⟩ := hcut
  rcases hc with rfl | rfl
  · go_wp2
    go_ret
    exact ⟨rfl, Old.refl _⟩
  clear HZ HS HS2
  by_cases c5 : ts.length = 0
  · have c6 : ((ts.length : Int) == 0) = true := by rw [beq_iff_eq]; omega
    go_wp2
    go_ret
    exact ⟨rfl, Old.refl _⟩
  have c6 : ((ts.length : Int) == 0) = false := by rw [beq_eq_false_iff_ne]; omega
  obtain ⟨m, hm⟩ : ∃ m, ts.length = m + 1 := ⟨ts.length - 1, by omega⟩
  obtain ⟨base, hb⟩ : ∃ x, ts[m]? = some x := ⟨_, List.getElem?_eq_getElem (by omega)⟩
  have HM := hide hm
  have HB := hide hb
  obtain rfl := HR.out.at_ (by omega)
  have m1 : ((ts.length : Int) - 1) = m := by omega
  have m2 : (m : Int) < ts.length := by omega
  have x0 : w.cell? ⟨b, off + m * 9, none⟩ = some (.int .u8 base.rule) := HR.out.cell m base hb 0 _ rfl
  have x1 : w.cell? ⟨b, off + m * 9 + 1, none⟩ = some (.int .u8 base.route) := HR.out.cell m base hb 1 _ rfl
  have x2 : w.cell? ⟨b, off + m * 9 + 2, none⟩ = some (.pointer (adr base.pm)) := HR.out.cell m base hb 2 _ rfl
  have x3 : w.cell? ⟨b, off + m * 9 + 3, none⟩ = some (.pointer (adr base.ps)) := HR.out.cell m base hb 3 _ rfl
  have x4 : w.cell? ⟨b, off + m * 9 + 4, none⟩ = some (.pointer (adr base.pd)) := HR.out.cell m base hb 4 _ rfl
  have x5 : w.cell? ⟨b, off + m * 9 + 5, none⟩ = some (.pointer (adr base.pp)) := HR.out.cell m base hb 5 _ rfl
  have x6 : w.cell? ⟨b, off + m * 9 + 6, none⟩ = some (.pointer (adr base.pa)) := HR.out.cell m base hb 6 _ rfl
  have x7 : w.cell? ⟨b, off + m * 9 + 7, none⟩ = some (.bool base.ma) := HR.out.cell m base hb 7 _ rfl
  have x8 : w.cell? ⟨b, off + m * 9 + 8, none⟩ = some (.string base.rej) := HR.out.cell m base hb 8 _ rfl
  clear hb hm
  go_upto_region 10 with fail
  --S1
  have HO0 : Hid (Old w (w.alloc (.cells #[.int .u8 base.rule, .int .u8 base.route, .pointer (adr base.pm), .pointer (adr base.ps), .pointer (adr base.pd), .pointer (adr base.pp), .pointer (adr base.pa), .bool base.ma, .string base.rej] 47))) := hide ((Old.refl w).alloc _)
  have HBX : Hid (∀ f v, base.cells[f]? = some v → (w.alloc (.cells #[.int .u8 base.rule, .int .u8 base.route, .pointer (adr base.pm), .pointer (adr base.ps), .pointer (adr base.pd), .pointer (adr base.pp), .pointer (adr base.pa), .bool base.ma, .string base.rej] 47)).cell? ⟨w.heap.size, f, none⟩ = some v) := hide (alloc_row (cs := base.cells))
  generalize w.alloc (.cells #[.int .u8 base.rule, .int .u8 base.route, .pointer (adr base.pm), .pointer (adr base.ps), .pointer (adr base.pd), .pointer (adr base.pp), .pointer (adr base.pa), .bool base.ma, .string base.rej] 47) = w0 at *
  clear x0 x1 x2 x3 x4 x5 x6 x7 x8
  have x8 : w0.cell? ⟨w.heap.size, 8, none⟩ = some (.string base.rej) := HBX.out 8 _ rfl
  by_cases hrej : base.rej = dB
  rotate_left
  · have E5 : (base.rej.toList == [100, 110, 110]) = false := by rw [show ([100, 110, 110] : List UInt8) = dB.toList by rw [ByteArray.toList_eq], toList_beq]; exact decide_eq_false hrej
    have E6 : (base.rej.toList != [100, 110, 110]) = true := by rw [bne, E5]; rfl
    clear hrej
    go_wp2
    go_ret
    exact ⟨rfl, HO0.out⟩
  rw [hrej] at x8
  have HREJ := hide hrej
  have E5 : (dB.toList != dB.toList) = false := by simp
  obtain ⟨Z, hZ, mk⟩ := make0 (t := 31) Try.underlying31 info9 (by decide) (ts.length + ds.length) (by omega)
  have mk' : ∀ w : World, (Instr.makeSlice 31 (.int .i64 0) (.int .i64 ((ts.length : Int) + (ds.length : Int)))).run Try.prog w = .ok (.slice (some ⟨w.heap.size, 0, none⟩) 0 (ts.length + ds.length)) (w.alloc (.cells Z 9)) := fun w => by rw [← Int.natCast_add]; exact mk w
  have HZ := hide hZ
  clear hrej mk hZ
  go_wp2
  obtain ⟨i9, hi9, hz9a, hz9b, hz9c⟩ := info_parts info9
  go_loopw [10, 11] (fun v i w' => ∃ (k g cp : Nat) (A : List ByteArray), k ≤ ts.length ∧ v = .slice (some ⟨g, 0, none⟩) A.length cp ∧ i = .int .i64 k ∧ Hid (O w' w0.heap.size 9 g A.length cp (A.map .string) ∧ A = asks (ts.take k) ∧ A.length ≤ k ∧ Old w0 w')) (fun _ i _ => ts.length - (intOf i).toNat)
  case atStart => exact ⟨0, _, _, [], by omega, rfl, rfl, hide ⟨O.made (Nat.le_refl _) (by omega) HZ.out, rfl, Nat.le_refl _, (Old.refl w0).alloc _⟩⟩
  case round =>
  obtain ⟨k, g, cp, A, hk, rfl, rfl, HL⟩ := hrel
  by_cases hlt : k < ts.length
  · obtain ⟨x, hx⟩ : ∃ x, ts[k]? = some x := ⟨_, List.getElem?_eq_getElem hlt⟩
    have HX := hide hx
    have hmem := List.mem_of_getElem? hx
    have hoo := HO0.out.trans HL.out.2.2.2
    have R := HR.out.old hoo
    have T := (HP.out x hmem).old hoo
    have i1 : (k : Int) < ts.length := by omega
    have x4 : wr.cell? ⟨b, off + k * 9 + 4, none⟩ = some (ptr x.pd) := R.cell k x hx 4 _ rfl
    clear hoo R
    cases hpd : x.pd with
    | none =>
      have HPD := hide hpd
      rw [hpd] at x4
      unfold ptr at x4
      clear T hpd hx hmem
      go_wp2
      go_roundw
      case rel =>
        refine ⟨k + 1, g, cp, A, by omega, rfl, by go_num, hide ⟨HL.out.1, ?_, by have := HL.out.2.2.1; omega, HL.out.2.2.2⟩⟩
        rw [List.take_add_one, HX.out]
        show A = asks (ts.take k ++ [x])
        rw [asks_snoc, HPD.out]; exact HL.out.2.1
      case measure => simp [intOf]; omega
    | some q =>
      obtain ⟨qb, qo⟩ := q
      have HPD := hide hpd
      have hsz : x.dn.size ≤ 1048576 := HSM.out.t k x hx (by rw [hpd]; rfl)
      have xd := T.d qb qo hpd
      rw [hpd] at x4
      unfold ptr at x4
      clear T hpd hx hmem
      have hA := HL.out.2.2.1
      go_wp2_with (first
        | (go_at_call 23; refine (fold23 x.dn _ hsz).mono ?_; rintro e w3 ⟨rfl, ho3⟩; have HO3 := hide ho3; have hz3 := (HL.out.2.2.2.trans ho3).size; clear ho3)
        | (at_builtin; refine wpList_append_lies _ rfl _ _ 31 rfl w0.heap.size 9 i9 _ 1 16 Try.underlying31 hi9 hz9a hz9b hz9c rfl (by decide) _ A.length (A.map .string) rfl ((HL.out.1.kep HO3.out.kep).own.alloc _) ⟨w3.heap.size, 0, none⟩ 1 1 [.string (fold x.dn)] rfl rfl (cell_one_new _ _ _) (by simp [Value.oneCell']) (by decide) (by unfold maxLen; omega) (by omega) (by simp; omega) _ rfl ?_; intro gg cap' w4 hown hgrow hat hlt'; have HOW := hide hown; have HGR := hide hgrow; clear hown hgrow hat hlt'))
      go_roundw
      case rel =>
        have ob := HL.out.1.blk
        have og : Old w0 w4 := ((HL.out.2.2.2.trans HO3.out).alloc _).grown HGR.out ob.1
        refine ⟨k + 1, gg, cap', A ++ [fold x.dn], by omega, by rw [List.length_append]; rfl, by go_num, hide ⟨⟨?_⟩, ?_, by rw [List.length_append]; show A.length + 1 ≤ k + 1; omega, og⟩⟩
        · rw [List.length_append, List.map_append]; exact HOW.out
        · rw [List.take_add_one, HX.out]
          show A ++ [fold x.dn] = asks (ts.take k ++ [x])
          rw [asks_snoc, HPD.out, if_pos (show (some (qb, qo)).isSome = true from rfl), ← HL.out.2.1]
      case measure => simp [intOf]; omega
  have i1 : ¬ (k : Int) < ts.length := by omega
  obtain rfl : k = ts.length := by omega
  rw [List.take_length] at HL
  obtain ⟨Z2, hZ2, mk2⟩ := make0 (t := 66) Try.underlying66 info3 (by decide) ds.length (by omega)
  have HZ2 := hide hZ2
  clear hZ2 mk'
  go_upto_region 19 with fail
  have HI : Hid (O (wr.alloc (.cells Z2 3)) w0.heap.size 9 g A.length cp (A.map .string) ∧ O (wr.alloc (.cells Z2 3)) w0.heap.size 3 wr.heap.size 0 ds.length [] ∧ g ≠ wr.heap.size ∧ Old w0 (wr.alloc (.cells Z2 3))) := hide ⟨HL.out.1.kep ((Old.refl wr).alloc _).kep, O.made HL.out.2.2.2.size (by omega) HZ2.out, by have := HL.out.1.blk; omega, HL.out.2.2.2.alloc _⟩
  have HA0 := hide HL.out.2.1
  clear HL mk2 HZ2 HZ
  generalize wr.alloc (.cells Z2 3) = w5 at *
  generalize wr.heap.size = ge at *
  obtain ⟨i3, hi3, hz3a, hz3b, hz3c⟩ := info_parts info3
  go_wp2
  go_loopw [10, 12, 13] (fun v10 v12 v13 w' => ∃ (i g cp ge ce : Nat) (A : List ByteArray) (E : List Nat), i ≤ ds.length ∧ v10 = .slice (some ⟨g, 0, none⟩) A.length cp ∧ v12 = .slice (some ⟨ge, 0, none⟩) E.length ce ∧ v13 = .int .i64 i ∧ Hid (O w' w0.heap.size 9 g A.length cp (A.map .string) ∧ O w' w0.heap.size 3 ge E.length ce (E.map iv) ∧ g ≠ ge ∧ A = asks ts ++ E.map (fd ds) ∧ Exp ds (asks ts) i E ∧ A.length ≤ 4096 + i ∧ Old w0 w')) (fun _ _ v _ => ds.length - (intOf v).toNat)
  case atStart => exact ⟨0, g, cp, ge, _, A, [], by omega, rfl, rfl, rfl, hide ⟨HI.out.1, HI.out.2.1, HI.out.2.2.1, by rw [HA0.out]; simp, Exp.start _ _, by have := List.length_filter_le (fun t : TR => t.pd.isSome) ts; rw [HA0.out]; unfold asks; rw [List.length_map]; omega, HI.out.2.2.2⟩⟩
  case round =>
  clear HI HA0
  obtain ⟨i, g2, cp2, ge2, ce2, A2, E, hi, rfl, rfl, rfl, HL⟩ := hrel
  have hA := HL.out.2.2.2.2.2.1
  have hE := HL.out.2.2.2.2.1.len
  by_cases hlt : i < ds.length
  · obtain ⟨d, hd⟩ : ∃ d, ds[i]? = some d := ⟨_, List.getElem?_eq_getElem hlt⟩
    have HX := hide hd
    have i1 : (i : Int) < ds.length := by omega
    have hsz := HSM.out.d i d hd
    have R := HDS.out.old (HO0.out.trans HL.out.2.2.2.2.2.2)
    obtain rfl := R.at_ (by omega)
    have x0 : wr.cell? ⟨db, doff + i, none⟩ = some (.string d) := by have := R.cell i d hd 0 _ rfl; simpa using this
    clear hd R
    go_upto_region 24 with (go_at_call 23; refine (fold23 d _ hsz).mono ?_; rintro e w3 ⟨rfl, ho3⟩; have HO3 := hide ho3; clear ho3)
    have HOB := hide (HL.out.1.kep HO3.out.kep)
    have e0 : (0 : Int) ≤ A2.length := by omega
    clear x0
    go_wp2
    go_loopw [15, 16] (fun s15 v16 w' => ∃ j : Nat, j ≤ A2.length ∧ s15 = .bool (isin (A2.take j) (fold d)) ∧ v16 = .int .i64 j ∧ w3 = w') (fun _ v _ => A2.length - (intOf v).toNat)
    case atStart => exact ⟨0, by omega, rfl, rfl, rfl⟩
    case round =>
    obtain ⟨j, hj, rfl, rfl, rfl⟩ := hrel
    by_cases hjt : j < A2.length
    · have j1 : (j : Int) < A2.length := by omega
      obtain ⟨y, hy⟩ : ∃ y, A2[j]? = some y := ⟨_, List.getElem?_eq_getElem hjt⟩
      have HY := hide hy
      have xa : w3.cell? ⟨g2, j, none⟩ = some (.string y) := HOB.out.cell (by rw [List.getElem?_map, hy]; rfl)
      have HT : Hid (isin (A2.take (j + 1)) (fold d) = (isin (A2.take j) (fold d) || decide (y = fold d))) := hide (by unfold isin; rw [List.take_add_one, hy]; simp)
      clear hy
      cases hq : decide (y = fold d)
      · have E7 := (toList_beq y (fold d)).trans hq
        rw [hq, Bool.or_false] at HT
        clear hq
        go_wp2
        go_roundw
        case rel => exact ⟨j + 1, by omega, by rw [HT.out], by go_num, by trivial⟩
        case measure => simp [intOf]; omega
      · have E7 := (toList_beq y (fold d)).trans hq
        rw [hq, Bool.or_true] at HT
        clear hq
        go_wp2
        go_roundw
        case rel => exact ⟨j + 1, by omega, by rw [HT.out], by go_num, by trivial⟩
        case measure => simp [intOf]; omega
    have j1 : ¬ (j : Int) < A2.length := by omega
    obtain rfl : j = A2.length := by omega
    rw [List.take_length]
    cases hs : isin A2 (fold d)
    · have hz3 := (HL.out.2.2.2.2.2.2.trans HO3.out).size
      have hz4 := HOB.out.blk
      have HOE := hide (HL.out.2.1.kep HO3.out.kep)
      have hz5 := HOE.out.blk
      have HNE := hide HL.out.2.2.1
      go_wp2_with (first
        | (at_builtin; refine wpList_append_lies _ rfl _ _ 66 rfl w0.heap.size 3 i3 _ 1 8 Try.underlying66 hi3 hz3a hz3b hz3c rfl (by decide) _ E.length (E.map iv) rfl (HOE.out.own.alloc _) ⟨w3.heap.size, 0, none⟩ 1 1 [.int .i64 (i : Int)] rfl rfl (cell_one_new _ _ _) (by simp [Value.oneCell']) (by decide) (by unfold maxLen; omega) (by omega) (by simp; omega) _ rfl ?_; intro g4 cap4 w4 hown hgrow hat hlt'; have HOW4 := hide hown; have HGR4 := hide hgrow; have HAT4 := hide hat; have HA4 := hide ((HOB.out.kep ((Old.refl w3).alloc _).kep).of (hgrow.block g2 (by simp; omega) (by intro e; cases e; exact HNE.out rfl))); have hz6 := hgrow.size; simp only [World.size_alloc] at hz6; clear hown hgrow hat hlt')
        | (at_builtin; refine wpList_append_lies _ rfl _ _ 31 rfl w0.heap.size 9 i9 _ 1 16 Try.underlying31 hi9 hz9a hz9b hz9c rfl (by decide) _ A2.length (A2.map .string) rfl (HA4.out.own.alloc _) ⟨w4.heap.size, 0, none⟩ 1 1 [.string (fold d)] rfl rfl (cell_one_new _ _ _) (by simp [Value.oneCell']) (by decide) (by unfold maxLen; omega) (by omega) (by simp; omega) _ rfl ?_; intro g6 cap6 w6 hown hgrow hat hlt'; have HOW6 := hide hown; have HGR6 := hide hgrow; have HAT6 := hide hat; clear hown hgrow hat hlt'))
      go_roundw
      case rel =>
        have O4 : O w4 w0.heap.size 3 g4 (E.length + 1) cap4 (E.map iv ++ [.int .i64 (i : Int)]) := ⟨HOW4.out⟩
        have b4 := O4.blk
        have d4 : g4 ≠ g2 := by
          rcases HAT4.out with h | h
          · cases h; exact fun e => HNE.out e.symm
          · simp only [World.size_alloc] at h; omega
        have d6 : g6 ≠ g4 := by
          rcases HAT6.out with h | h
          · cases h; exact fun e => d4 e.symm
          · simp only [World.size_alloc] at h; omega
        refine ⟨i + 1, g6, cap6, g4, cap4, A2 ++ [fold d], E ++ [i], by omega, by rw [List.length_append]; rfl, by rw [List.length_append]; rfl, by go_num, hide ⟨⟨?_⟩, ?_, d6, ?_, ?_, ?_, ?_⟩⟩
        · rw [List.length_append, List.map_append]; exact HOW6.out
        · rw [List.length_append, List.map_append]
          exact (O4.kep ((Old.refl w4).alloc _).kep).of (HGR6.out.block g4 (by simp; omega) (by intro e; cases e; exact d4 rfl))
        · rw [List.map_append, ← List.append_assoc, ← HL.out.2.2.2.1, List.map_cons, List.map_nil, fd_of HX.out]
        · refine HL.out.2.2.2.2.1.push ?_
          rw [← HL.out.2.2.2.1, fd_of HX.out]
          intro hh
          rw [isin_true hh] at hs; cases hs
        · rw [List.length_append]; show A2.length + 1 ≤ _; omega
        · have hz7 := HL.out.1.blk
          have hz8 := HL.out.2.1.blk
          exact ((((HL.out.2.2.2.2.2.2.trans HO3.out).alloc _).grown HGR4.out hz8.1).alloc _).grown HGR6.out hz7.1
      case measure => simp [intOf]; omega
    · go_wp2
      go_roundw
      case rel => 
        refine ⟨i + 1, g2, cp2, ge2, ce2, A2, E, by omega, rfl, rfl, by go_num, hide ⟨HOB.out, HL.out.2.1.kep HO3.out.kep, HL.out.2.2.1, HL.out.2.2.2.1, HL.out.2.2.2.2.1.skip ?_, by omega, HL.out.2.2.2.2.2.2.trans HO3.out⟩⟩
        rw [← HL.out.2.2.2.1, fd_of HX.out]; exact isin_iff.1 hs
      case measure => simp [intOf]; omega
  have i1 : ¬ (i : Int) < ds.length := by omega
  obtain rfl : i = ds.length := by omega
  have HXP := hide HL.out.2.2.2.2.1
  have HOW := hide (HO0.out.trans HL.out.2.2.2.2.2.2)
  go_upto_region 36 with (first
    | (go_at_call_of 14 (Value.slice lad al.length lcap); refine (snssais14 al lad lb loff lcap wr (HAL.out.old HOW.out) HNL.out (by omega)).mono ?_; rintro e wa ⟨lad', lb', loff', lcap', rfl, ra, oa⟩; have HRA := hide ra; have HOA := hide oa; have HOWA := hide (HOW.out.trans oa); clear ra oa)
    | (go_at_call_of 14 (Value.slice sad sns.length scap); refine (snssais14 sns sad sb soff scap wa (HSN.out.old HOWA.out) HNS.out (by omega)).mono ?_; rintro e wss ⟨sad', sb', soff', scap', rfl, ra, oa⟩; have HRS := hide ra; have HOS := hide oa; have HOWS := hide (HOWA.out.trans oa); clear ra oa)
    | (go_at_call 15; refine (dnns15 ds dad db doff dcap wss (HDS.out.old HOWS.out) HND.out (by omega)).mono ?_; rintro e wd ⟨dad', db', doff', dcap', rfl, ra, oa⟩; have HRD := hide ra; have HOD := hide oa; have HOWD := hide (HOWS.out.trans oa); clear ra oa)
    | (go_at_call 16; refine (att16 ts (some ⟨b, off, none⟩) b off cap wd (HR.out.old HOWD.out) (fun t ht => (HP.out t ht).old HOWD.out) (by omega)).mono ?_; rintro e wt ⟨rfl, cur, aa, has⟩; have HAS := hide has; clear has))
  have HT0 : Hid (Step w0 (Sta al sns ds E base lad' lb' loff' sad' sb' soff' dad' db' doff' dad db doff w0.heap.size ge2 ce2 w.heap.size) ds (asks ts) E base 0 wd.heap.size ts.length aa wt) := hide (by
    have od := (HOA.out.trans HOS.out).trans HOD.out
    have o0 : Old w0 wd := HL.out.2.2.2.2.2.2.trans od
    refine Step.start (m := m) ⟨HRA.out.old (HOS.out.trans HOD.out), HRS.out.old HOD.out, HRD.out, HDS.out.old HOWD.out, HL.out.2.1.kep od.kep, fun f v hv => o0.cell (HBX.out f v hv), (HP.out base (List.mem_of_getElem? HB.out)).old HOWD.out⟩ (fun w W h k => h.kep k) o0 HAS.out HM.out HB.out HREJ.out (by omega) fun t ht => ?_
    cases hq : t.pd with
    | none => exact HNO.out t ht hq
    | some q =>
      obtain ⟨j, hj, rfl⟩ := List.mem_iff_getElem.1 ht
      exact HSM.out.t j _ (List.getElem?_eq_getElem hj) (by rw [hq]; rfl))
  have HLEN := hide HAS.out.len
  clear HAL HSN HRA HRS HRD HOA HOS HOD HOWA HOWS HOWD HAS HL hE hA HOW
  obtain ⟨i69, hi69, hz69a, hz69b, hz69c⟩ := info_parts info69
  have hEl := HXP.out.len
  have HZD : Hid (∀ d ∈ ds, d.size ≤ 1048576) := hide fun d hd => by
    obtain ⟨j, hj, rfl⟩ := List.mem_iff_getElem.1 hd
    exact HSM.out.d j _ (List.getElem?_eq_getElem hj)
  go_wp2
  go_loopw [20, 21] (fun v20 v21 w' => ∃ (s gT cT : Nat) (aa : List (Nat × TR)), v20 = .slice (some ⟨gT, 0, none⟩) aa.length cT ∧ v21 = .int .i64 s ∧ Hid (Step w0 (Sta al sns ds E base lad' lb' loff' sad' sb' soff' dad' db' doff' dad db doff w0.heap.size ge2 ce2 w.heap.size) ds (asks ts) E base s gT cT aa w')) (fun _ v _ => ds.length + 1 - (intOf v).toNat)
  case atStart => exact ⟨0, _, _, aa, by rw [HLEN.out], rfl, HT0⟩
  case round =>
  clear HT0 HLEN
  obtain ⟨s, gT, cT, aa2, rfl, rfl, HT⟩ := hrel
  have hsl := HT.out.le
  have s1 : (s : Int) ≤ ds.length := by omega
  by_cases hs : s < E.length
  · obtain ⟨e, hE⟩ : ∃ e, E[s]? = some e := ⟨_, List.getElem?_eq_getElem hs⟩
    have hel := (HXP.out.at_ s e hE).1
    obtain ⟨d, hd⟩ : ∃ d, ds[e]? = some d := ⟨_, List.getElem?_eq_getElem hel⟩
    obtain ⟨m', la, hm', hla, hkp, hrj⟩ := HT.out.last
    have HG := hide (HT.out.got13 (lcap := lcap') (scap := scap') (dcap := dcap') (by omega) (by omega) (by omega) (by omega) HZD.out HXP.out hE hd hm' hla hrj)
    have HEE := hide hE
    have HDD := hide hd
    have HLA := hide (List.mem_of_getElem? hla)
    have HKP := hide hkp
    have s2 : ¬ (E.length : Int) ≤ s := by omega
    have s3 : (s : Int) < E.length := by omega
    have s4 : (e : Int) < ds.length := by omega
    clear hE hd hm' hla hkp hrj
    go_upto_region 44 with (go_at_call 13; refine HG.out.mono ?_; rintro x w1 ⟨q, rfl, g1, rfl, hg1, hge, ho1⟩; have HG1 := hide hg1; have HO1 := hide ho1; clear hg1 ho1)
    obtain ⟨sta, aok⟩ := HT.out.rob.use HO1.out
    have HSTA := hide sta
    have HAOK := hide aok
    obtain rfl := sta.rarg.at_ (by omega)
    have y0 : w1.cell? ⟨g1, 2, none⟩ = some (.pointer (some ⟨db', doff' + e, none⟩)) := cell_of_row _ _ 2 _ _ _ HG1.out
    have y1 : w1.cell? ⟨db', doff' + e, none⟩ = some (.string d) := by have := sta.rdn.cell e d HDD.out 0 _ rfl; simpa using this
    have y2 : w1.cell? ⟨db, doff + e, none⟩ = some (.string d) := by have := sta.rarg.cell e d HDD.out 0 _ rfl; simpa using this
    have y3 : w1.cell? ⟨ge2, s, none⟩ = some (.int .i64 (e : Int)) := sta.rexp.cell (by rw [List.getElem?_map, HEE.out]; rfl)
    have y4 : (d.toList != d.toList) = false := by simp
    clear sta aok
    go_quiet (fail)
    clear y0 y1 y2 y3
    have HK20 : Hid (∀ W, Old w1 W → Calls Try.prog 20 #[.pointer (some ⟨g1, 0, none⟩), .agg base.cells, .bool false, .bool true] W fun e w' => e = .returned (.bool true) ∧ Old W w') := hide fun W ho => by
      have K := HKP.out
      have T : TOK W (withD la.2 (db', doff' + e) d) := by
        have A := ((HAOK.out la HLA.out).old ho).tok
        exact ⟨A.m, A.n, fun b o e' => (by cases e'; have := (HSTA.out.kep ho.kep).rdn.cell e d HDD.out 0 _ rfl; simp only [Nat.mul_one, Nat.add_zero] at this; exact this), A.p, A.ac⟩
      exact keeps20b g1 base (withD la.2 (db', doff' + e) d) W (fun f v hv => (cell_of_row _ _ f _ _ _ (ho.heap HG1.out)).trans hv) (HSTA.out.rtok.old ho) T K.pm K.m K.ps K.n K.pp K.p K.pa K.ac K.ma
    have q0 : w1.cell? ⟨w.heap.size, 0, none⟩ = some (.int .u8 base.rule) := HSTA.out.rbox 0 _ rfl
    have q1 : w1.cell? ⟨w.heap.size, 1, none⟩ = some (.int .u8 base.route) := HSTA.out.rbox 1 _ rfl
    have q2 : w1.cell? ⟨w.heap.size, 2, none⟩ = some (ptr base.pm) := HSTA.out.rbox 2 _ rfl
    have q3 : w1.cell? ⟨w.heap.size, 3, none⟩ = some (ptr base.ps) := HSTA.out.rbox 3 _ rfl
    have q4 : w1.cell? ⟨w.heap.size, 4, none⟩ = some (ptr base.pd) := HSTA.out.rbox 4 _ rfl
    have q5 : w1.cell? ⟨w.heap.size, 5, none⟩ = some (ptr base.pp) := HSTA.out.rbox 5 _ rfl
    have q6 : w1.cell? ⟨w.heap.size, 6, none⟩ = some (ptr base.pa) := HSTA.out.rbox 6 _ rfl
    have q7 : w1.cell? ⟨w.heap.size, 7, none⟩ = some (.bool base.ma) := HSTA.out.rbox 7 _ rfl
    have q8 : w1.cell? ⟨w.heap.size, 8, none⟩ = some (.string base.rej) := HSTA.out.rbox 8 _ rfl
    go_upto_region 48 with (go_at_call 20; refine (HK20.out _ ((Old.refl w1).drewN _)).mono ?_; rintro x w2 ⟨rfl, ho2⟩; have HO2 := hide (((Old.refl w1).drewN _).trans ho2); clear ho2)
    clear q0 q1 q2 q3 q4 q5 q6 q7 q8
    have HKS : Hid (∀ W, Old w2 W → (W.cell? ⟨w.heap.size, 0, none⟩ = some (.int .u8 base.rule) ∧ W.cell? ⟨w.heap.size, 1, none⟩ = some (.int .u8 base.route) ∧ W.cell? ⟨g1, 0, none⟩ = some (.pointer (adr la.2.pm)) ∧ W.cell? ⟨g1, 1, none⟩ = some (.pointer (adr la.2.ps)) ∧ W.cell? ⟨g1, 2, none⟩ = some (.pointer (some ⟨db', doff' + e, none⟩)) ∧ W.cell? ⟨g1, 3, none⟩ = some (.pointer (adr la.2.pp)) ∧ W.cell? ⟨g1, 4, none⟩ = some (.pointer (adr la.2.pa)) ∧ W.cell? ⟨g1, 5, none⟩ = some (.bool la.2.ma))) := hide fun W ho' => by
      have ho := HO2.out.trans ho'
      have hh := ho.heap HG1.out
      exact ⟨ho.cell (HSTA.out.rbox 0 _ rfl), ho.cell (HSTA.out.rbox 1 _ rfl), cell_of_row _ _ 0 _ _ _ hh, cell_of_row _ _ 1 _ _ _ hh, cell_of_row _ _ 2 _ _ _ hh, cell_of_row _ _ 3 _ _ _ hh, cell_of_row _ _ 4 _ _ _ hh, cell_of_row _ _ 5 _ _ _ hh⟩
    go_region_held3 (fun W => W.cell? ⟨w.heap.size, 0, none⟩ = some (.int .u8 base.rule) ∧ W.cell? ⟨w.heap.size, 1, none⟩ = some (.int .u8 base.route) ∧ W.cell? ⟨g1, 0, none⟩ = some (.pointer (adr la.2.pm)) ∧ W.cell? ⟨g1, 1, none⟩ = some (.pointer (adr la.2.ps)) ∧ W.cell? ⟨g1, 2, none⟩ = some (.pointer (some ⟨db', doff' + e, none⟩)) ∧ W.cell? ⟨g1, 3, none⟩ = some (.pointer (adr la.2.pp)) ∧ W.cell? ⟨g1, 4, none⟩ = some (.pointer (adr la.2.pa)) ∧ W.cell? ⟨g1, 5, none⟩ = some (.bool la.2.ma))
      (first | with_reducible exact HKS.out _ (Old.refl w2).drew | with_reducible exact HKS.out _ ((Old.refl w2).alloc _).drew)
      (fail)
    have HN4 : Hid ((w2.alloc (.cells #[.int .u8 base.rule, .int .u8 base.route, .pointer (adr la.2.pm), .pointer (adr la.2.ps), .pointer (some ⟨db', doff' + e, none⟩), .pointer (adr la.2.pp), .pointer (adr la.2.pa), .bool la.2.ma, .string ⟨#[100, 110, 110]⟩] 68)).drew.heap[w2.heap.size]? = some (.cells (nextT base la.2 (db', doff' + e) d).cells 68 (0, 0))) := hide (heap_alloc_new w2 _)
    have HO4 : Hid (Old w2 (w2.alloc (.cells #[.int .u8 base.rule, .int .u8 base.route, .pointer (adr la.2.pm), .pointer (adr la.2.ps), .pointer (some ⟨db', doff' + e, none⟩), .pointer (adr la.2.pp), .pointer (adr la.2.pa), .bool la.2.ma, .string ⟨#[100, 110, 110]⟩] 68)).drew) := hide ((Old.refl w2).alloc _).drew
    generalize (w2.alloc (.cells #[.int .u8 base.rule, .int .u8 base.route, .pointer (adr la.2.pm), .pointer (adr la.2.ps), .pointer (some ⟨db', doff' + e, none⟩), .pointer (adr la.2.pp), .pointer (adr la.2.pa), .bool la.2.ma, .string ⟨#[100, 110, 110]⟩] 68)).drew = w4 at *
    have HGN : Hid (wr.heap.size ≤ w2.heap.size) := hide (HO1.out.trans HO2.out).size
    have HO5 := hide ((HO1.out.trans HO2.out).trans HO4.out)
    generalize w2.heap.size = gn at *
    have hz4 := HO5.out.size
    have hz0 := HT.out.old.size
    have hl4 := HT.out.len
    clear HKS HO2 HO4 HK20
    go_wp2_with (at_builtin; refine wpList_append_lies _ rfl _ _ 41 rfl w0.heap.size 69 i69 _ 1 8 Try.underlying41 hi69 hz69a hz69b hz69c rfl (by decide) _ aa2.length (aa2.map pv) rfl ((HT.out.own.kep HO5.out.kep).own.alloc _) ⟨w4.heap.size, 0, none⟩ 1 1 [.pointer (some ⟨gn, 0, none⟩)] rfl rfl (cell_one_new _ _ _) (by simp [Value.oneCell']) (by decide) (by unfold maxLen; omega) (by omega) (by simp; omega) _ rfl ?_; intro g6 cap6 w6 hown hgrow hat hlt'; have HOW6 := hide hown; have HGR6 := hide hgrow; have HAT6 := hide hat; clear hown hgrow hat hlt')
    go_roundw
    case rel =>
      have ob := HT.out.own.blk
      have o6 : Old wr (w4.alloc (.cells #[.pointer (some ⟨gn, 0, none⟩)] 69)) := HO5.out.alloc _
      have K := HKP.out
      have hgn := HGN.out
      refine ⟨s + 1, g6, cap6, aa2 ++ [(gn, nextT base la.2 (db', doff' + e) d)], by rw [List.length_append]; rfl, by go_num, hide (HT.out.next (gn := gn) HEE.out HDD.out o6 (((Old.refl w4).alloc _).heap HN4.out) (by omega) (fun W hW => ?_) ⟨K.pm, K.m, K.ps, K.n, K.pp, K.p, K.pa, K.ac, K.ma⟩ rfl rfl rfl (HZD.out d (List.mem_of_getElem? HDD.out)) HOW6.out HGR6.out ?_)⟩
      · obtain ⟨sta, aok⟩ := HT.out.rob.old o6 W hW
        have A := (aok la HLA.out).tok
        exact ⟨A.m, A.n, fun b o e' => (by cases e'; have := sta.rdn.cell e d HDD.out 0 _ rfl; simp only [Nat.mul_one, Nat.add_zero] at this; exact this), A.p, A.ac⟩
      · rcases HAT6.out with h | h
        · cases h; exact .inl rfl
        · exact .inr (by rw [h]; exact Nat.le_refl _)
    case measure => simp [intOf]; omega
  obtain rfl : s = E.length := by omega
  have HG := hide (HT.out.nil13 (lcap := lcap') (scap := scap') (dcap := dcap') (by omega) (by omega) (by omega) (by omega) HZD.out HXP.out)
  have s5 : ((E.length : Int) == E.length) = true := by simp
  go_wp2_with (go_at_call 13; refine HG.out.mono ?_; rintro x w1 ⟨q, rfl, rfl, ho1⟩; have HO1 := hide ho1; clear ho1)
  go_ret
  exact ⟨ret_bool (by simp), HO0.out.trans (HT.out.old.trans HO1.out)⟩
end Go.Proofs.Qxb6609239a.R
