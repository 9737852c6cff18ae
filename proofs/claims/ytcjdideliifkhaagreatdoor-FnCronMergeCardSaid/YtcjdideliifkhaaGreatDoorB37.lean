import Derived.Test.YtcjdideliifkhaaGreatDoorB36
set_option maxRecDepth 100000
set_option maxHeartbeats 16000000
namespace Go.Proofs.YtcjdideliifkhaaGreatDoor
open Go.RowKit Go.Maps Go.Proofs.YtcjdideliifkhaaGreatDoorW.PrintWords Go.Proofs.YtcjdideliifkhaaGreatDoorW.PrintLast Go.Proofs.YtcjdideliifkhaaGreatDoorW.PrintMore PFnCronTextAfterAnywhere
set_option linter.unusedVariables false
set_option linter.unusedSimpArgs false
def ParseQ (m : CMean) (w : World) (e : Ending) (w' : World) : Prop :=
 (∃ v loc u, e = .returned (.tuple #[v, .nilIface]) ∧ SchedR w' m loc v ∧ LocOk w' loc u ∧ (m.every = false → m.utc = u)) ∧ Below w.heap.size w w'
theorem parseG_c (o : Nat) (ho : o < 512) (h2 : spec_CronTwoOptional.f (o : Int) = some false) (s : ByteArray) (hs : s.size ≤ 4294950000) (m : CMean) (h : ParseR (o : Int) (toL s) m) (w : World) :
  Calls Tryz.prog 30 #[.agg #[.int .i64 (o : Int)], .string s] w (ParseQ m w) := by
 obtain ⟨hne, st, u, m0, hpl, hm0, hutc, hstz, hzone⟩ := parse_split h
 have hs0 : ((s.size : Int) == 0) = false := by
  have : s.size ≠ 0 := fun h0 => hne (List.eq_nil_of_length_eq_zero (by rw [toL_len]; exact h0))
  simpa using this
 have HP1 := Lib.hid (show strings_HasPrefix.f s (ofL tzL) = some (begins (toL s) tzL) from prefix_f s tzL)
 have HP2 := Lib.hid (show strings_HasPrefix.f s (ofL ctzL) = some (begins (toL s) ctzL) from prefix_f s ctzL)
 have HZB := Lib.hid (zh_bool (toL s))
 have HPL := Lib.hid hpl
 have HM0 := Lib.hid hm0
 have HUTC := Lib.hid hutc
 have HZN := Lib.hid hzone
 clear hne hpl hm0 hutc hzone h
 generalize hb1 : begins (toL s) tzL = b1 at *
 generalize hb2 : begins (toL s) ctzL = b2 at *
 clear hb1 hb2
 have hbox := blk_new w (.cells #[.int .i64 (o : Int)] 78)
 have hbel : Below w.heap.size w (w.alloc (.cells #[.int .i64 (o : Int)] 78)) := below_alloc (Below.refl _ _) _
 have HBX := Lib.hid hbox
 have HBL := Lib.hid hbel
 clear hbox hbel
 go_enter Tryz.func30, Tryz.ntmps30
 go_upto_region 4 with (fail)
 go_cut [28] (fun v28 wc => v28 = .bool (b1 || b2) ∧ wc.heap[w.heap.size]? = some (.cells #[.int .i64 (o : Int)] 78 (0, 0)) ∧ Below w.heap.size w wc)
 case first =>
  cases b1 with
  | true =>
   go_wp2_with (go_at_call 50; refine (strings_HasPrefix.calls s (ofL tzL) true _ HP1.out).mono ?_; rintro e w1 ⟨rfl, hb1⟩; have HB1 := Lib.hid hb1.below; clear hb1)
   go_meet
   case rel => exact ⟨rfl, blk_below HBX.out HB1.out, below_step HBL.out HB1.out⟩
  | false =>
   go_wp2_with (first
    | (go_at_call 50; refine (strings_HasPrefix.calls s (ofL tzL) false _ HP1.out).mono ?_; rintro e w1 ⟨rfl, hb1⟩; have HB1 := Lib.hid hb1.below; clear hb1 HP1)
    | (go_at_call 50; refine (strings_HasPrefix.calls s (ofL ctzL) b2 _ HP2.out).mono ?_; rintro e w2 ⟨rfl, hb2⟩; have HB2 := Lib.hid (below_step HB1.out hb2.below); clear hb2))
   go_meet
   case rel => exact ⟨rfl, blk_below HBX.out HB2.out, below_step HBL.out HB2.out⟩
 case rest =>
  obtain ⟨rfl, hbox, hbel⟩ := hcut
  have HBX2 := Lib.hid hbox
  have HBL2 := Lib.hid hbel
  clear hbox hbel HP1 HP2 HBX HBL
  generalize (b1 || b2) = bz at *
  go_upto_if 28 with (fail)
  go_cut [1, 6, 7, 8, 9] (fun v1 v6 v7 v8 v9 wc => v1 = .string st ∧ ∃ loc, v6 = .pointer loc ∧ PS w (o : Int) loc u wc)
  case first =>
   cases bz with
   | true =>
    have hz : 0 < zh (toL s) := of_decide_eq_true HZB.out
    obtain ⟨name, tail, hnt, hname, hzr, hfo, hst⟩ : ∃ (name tail : Txt), (toL s).drop (zh (toL s)) = name ++ 32 :: tail ∧ (∀ c ∈ name, c ≠ 32) ∧ ZoneR name u ∧ foreign (32 :: tail) = false ∧ st = ofL (trimL (32 :: tail)) := by
     rcases HZN.out with ⟨h, _⟩ | ⟨_, h⟩
     ·omega
     ·exact h
    obtain ⟨p, q, ⟨k1, hk1⟩, ⟨k2, hk2⟩, hqp, hps, he1, he2⟩ := zone_cut (s := s) (by omega) hz hnt hname
    have HK1 := Lib.hid hk1
    have HK2 := Lib.hid hk2
    have HL := Lib.hid (fun w => (show Calls Tryz.prog 52 #[.string (s.extract (q + 1) p)] w fun e w' => (∃ loc, e = .returned (.tuple #[.pointer loc, .nilIface]) ∧ LocOk w' loc u) ∧ Below w.heap.size w w' from by
     rw [he1]; exact load_c name u hzr w))
    have HT := Lib.hid (fun w => (show Calls Tryz.prog 53 #[.string (s.extract p s.size)] w fun e w' => e = .returned (.string st) ∧ Below w.heap.size w w' from by
     have := trimZ_c (s.extract p s.size) (by rw [ByteArray.size_extract]; omega) (by rw [he2, toL_ofL]; exact hfo) w
     rw [he2, toL_ofL, ← hst] at this
     rw [he2]; exact this))
    clear hz hnt hname hzr hfo hst hk1 hk2 he1 he2
    go_wp2_with (first
     | (go_at_call 51; refine (PzzSplit.cron_zzIndex.calls k1 s (ofL [32]) (p : Int) _ HK1.out).mono ?_; rintro e w2 ⟨rfl, hb2⟩; have HB2 := Lib.hid hb2.below; clear hb2 HK1)
     | (go_at_call 51; refine (PzzSplit.cron_zzIndex.calls k2 s (ofL [61]) (q : Int) _ HK2.out).mono ?_; rintro e w3 ⟨rfl, hb3⟩; have HB3 := Lib.hid (below_step HB2.out hb3.below); clear hb3)
     | (go_at_call 52; refine (HL.out _).mono ?_; rintro e w4 ⟨⟨loc, rfl, hlo⟩, hb4⟩; have HB4 := Lib.hid (below_step HB3.out hb4); have HLO := Lib.hid hlo; clear hb4 hlo)
     | (go_at_call 53; refine (HT.out _).mono ?_; rintro e w5 ⟨rfl, hb5⟩; have HB5 := Lib.hid (below_step HB4.out hb5); have HLO5 := Lib.hid (HLO.out.below hb5); clear hb5))
    go_meet
    case rel => exact ⟨rfl, loc, rfl, blk_below HBX2.out HB5.out, below_step HBL2.out HB5.out, HLO5.out⟩
   | false =>
    obtain ⟨hst, hu⟩ : st = s ∧ u = false := by
     rcases HZN.out with ⟨_, h⟩ | ⟨h, _⟩
     ·exact h
     ·exact absurd h (of_decide_eq_false HZB.out)
    subst hst hu
    go_wp2
    go_meet
    case rel => exact ⟨rfl, none, rfl, HBX2.out, HBL2.out, .inr ⟨rfl, rfl⟩⟩
  case rest =>
   obtain ⟨rfl, loc, rfl, hps⟩ := hcut
   clear HBX2 HBL2 HZB HZN
   have HPS := Lib.hid hps
   clear hps
   have HPF := Lib.hid (show strings_HasPrefix.f st (ofL [64]) = some (begins (toL st) [64]) from prefix_f st [64])
   rcases HPL.out with ⟨hat, hfr⟩ | ⟨hat, h256, hde⟩
   ·rw [hat] at HPF
    obtain ⟨hfo, hwne, mm, hmm, hF, hev, _⟩ := hfr
    have hwl := (wordsL_sum (toL st) none).2
    rw [toL_len] at hwl
    have HFZ := Lib.hid (fun w => fieldsZ_c st (by omega) hfo w)
    have HNC := Lib.hid (fun base v w hrow hb => norm_c o ho h2 (wordsL none (toL st)) (by omega) hwne mm hmm base v w hrow hb)
    have hus : ((wordsL none (toL st)).map ofL).map Value.string = strs (wordsL none (toL st)) := by unfold strs; rw [List.map_map]; rfl
    have hul : (strs (wordsL none (toL st))).length = (wordsL none (toL st)).length := by unfold strs; simp
    have hfl : (full (o : Int) mm (wordsL none (toL st))).length = 6 := by unfold full; simp
    have hfm := full_mem (o := (o : Int)) (mm := mm) hfo
    rw [toL_len] at hfm
    have HEV := Lib.hid hev
    clear hat hfo hwne hmm hev hwl
    generalize full (o : Int) mm (wordsL none (toL st)) = fs at *
    generalize wordsL none (toL st) = words at *
    obtain ⟨x0, x1, x2, x3, x4, x5, rfl⟩ : ∃ x0 x1 x2 x3 x4 x5, fs = [x0, x1, x2, x3, x4, x5] := by
     match fs, hfl with
     | [x0, x1, x2, x3, x4, x5], _ => exact ⟨x0, x1, x2, x3, x4, x5, rfl⟩
    have HC0 := Lib.hid (fun v W hv be herr => clos_c 0 (by decide) (by decide) (ofL x0) (by rw [ofL_size]; have := (hfm x0 (by simp)).1; omega) (by rw [toL_ofL]; exact (hfm x0 (by simp)).2) (m0.F 0) (by rw [toL_ofL]; exact hF 0 (by simp)) v W hv be herr)
    have HC1 := Lib.hid (fun v W hv be herr => clos_c 1 (by decide) (by decide) (ofL x1) (by rw [ofL_size]; have := (hfm x1 (by simp)).1; omega) (by rw [toL_ofL]; exact (hfm x1 (by simp)).2) (m0.F 1) (by rw [toL_ofL]; exact hF 1 (by simp)) v W hv be herr)
    have HC2 := Lib.hid (fun v W hv be herr => clos_c 2 (by decide) (by decide) (ofL x2) (by rw [ofL_size]; have := (hfm x2 (by simp)).1; omega) (by rw [toL_ofL]; exact (hfm x2 (by simp)).2) (m0.F 2) (by rw [toL_ofL]; exact hF 2 (by simp)) v W hv be herr)
    have HC3 := Lib.hid (fun v W hv be herr => clos_c 3 (by decide) (by decide) (ofL x3) (by rw [ofL_size]; have := (hfm x3 (by simp)).1; omega) (by rw [toL_ofL]; exact (hfm x3 (by simp)).2) (m0.F 3) (by rw [toL_ofL]; exact hF 3 (by simp)) v W hv be herr)
    have HC4 := Lib.hid (fun v W hv be herr => clos_c 4 (by decide) (by decide) (ofL x4) (by rw [ofL_size]; have := (hfm x4 (by simp)).1; omega) (by rw [toL_ofL]; exact (hfm x4 (by simp)).2) (m0.F 4) (by rw [toL_ofL]; exact hF 4 (by simp)) v W hv be herr)
    have HC5 := Lib.hid (fun v W hv be herr => clos_c 5 (by decide) (by decide) (ofL x5) (by rw [ofL_size]; have := (hfm x5 (by simp)).1; omega) (by rw [toL_ofL]; exact (hfm x5 (by simp)).2) (m0.F 5) (by rw [toL_ofL]; exact hF 5 (by simp)) v W hv be herr)
    have HUS := Lib.hid hus
    have HUL := Lib.hid hul
    clear hus hul hfl hfm hF h2
    have hu78 := Tryz.underlying78
    go_upto_region 18 with (first
     | (go_at_call 50; refine (strings_HasPrefix.calls st (ofL [64]) false _ HPF.out).mono ?_; rintro e w5 ⟨rfl, hb5⟩; have HS5 := Lib.hid (HPS.out.goes hb5.below); clear hb5 HPF)
     | (go_at_call 55; refine (HFZ.out _).mono ?_; rintro e w6 ⟨v, rfl, hrow⟩; have HROW := Lib.hid hrow; clear hrow))
    have hrow6 : (w6.alloc (.cells #[.nilIface] 84)).ownsRow w5.heap.size 9 1 v words.length (strs words) := by
     have h := (HROW.out.alloc (.cells #[.nilIface] 84)).own
     rw [HUS.out, HUL.out] at h
     exact h
    have herr6 := blk_new w6 (.cells #[.nilIface] 84)
    have hb6 : Below w5.heap.size w5 (w6.alloc (.cells #[.nilIface] 84)) := below_alloc HROW.out.below _
    have hne6 : ∀ g, v.ownBlock = some g → w5.heap.size ≤ g ∧ g ≠ w6.heap.size := fun g hg => by
     obtain ⟨h1, cur, h2⟩ := HROW.out.block g hg
     have := blk_lt h2
     exact ⟨h1, by omega⟩
    have hc6 := (HS5.out.goes hb6).cell
    have hle6 : w5.heap.size ≤ (w6.alloc (.cells #[.nilIface] 84)).heap.size := hb6.size
    have HERR6 := Lib.hid herr6
    have HB6 := Lib.hid hb6
    have HNE6 := Lib.hid hne6
    have HN6 := Lib.hid (HNC.out _ v _ hrow6 hle6)
    clear hrow6 herr6 hb6 hne6 hle6 HROW HNC HFZ HUS HUL
    generalize w6.alloc (.cells #[.nilIface] 84) = W6 at *
    generalize w6.heap.size = be at *
    go_upto_region 19 with (go_at_call 56; refine HN6.out.mono ?_; rintro e w7 ⟨⟨ts, rfl, hts⟩, hg7⟩; have hb7 : Below w5.heap.size w5 w7 := (HB6.out.grown hg7 HB6.out.size (fun k hk => (HNE6.out k hk).1)); have herr7 : w7.heap[be]? = some (.cells #[.nilIface] 84 (0, 0)) := ((hg7.block be (blk_lt HERR6.out) (fun e => (HNE6.out be e.symm).2 rfl)).trans HERR6.out); have HTS7 := Lib.hid hts; have HB7 := Lib.hid hb7; have HERR7 := Lib.hid herr7; have ce : w7.cell? ⟨be, 0, none⟩ = some .nilIface := blk_cell herr7 0; have hf7 : w7.frozen? ⟨be, 0, none⟩ = false := blk_frozen herr7 0; clear hts hg7 hb7 herr7)
    have herr8 : (w7.setCell ⟨be, 0, none⟩ .nilIface).heap[be]? = some (.cells #[.nilIface] 84 (0, 0)) := blk_put HERR7.out 0 _ (by simp)
    have hst7 : Below w7.heap.size w7 (w7.setCell ⟨be, 0, none⟩ .nilIface) := below_same HERR7.out _ (Below.refl _ _)
    obtain ⟨A7, cp, rfl, hcells⟩ := HTS7.out
    obtain ⟨ad, rfl, _⟩ := hcells 0 (by simp)
    have HPG := Lib.hid (show PG w be loc u (.slice (some ad) 6 cp) [ofL x0, ofL x1, ofL x2, ofL x3, ofL x4, ofL x5] (w7.setCell ⟨be, 0, none⟩ .nilIface) from
     ⟨below_step (below_step HS5.out.below HB7.out) hst7, herr8, HTS7.out.below hst7, HS5.out.loc.below (below_step HB7.out hst7)⟩)
    have HCELL := Lib.hid (fun W (h : PG w be loc u (.slice (some ad) 6 cp) [ofL x0, ofL x1, ofL x2, ofL x3, ofL x4, ofL x5] W) (k : Nat) (hk : k < [ofL x0, ofL x1, ofL x2, ofL x3, ofL x4, ofL x5].length) => (show W.cell? (ad.add k) = some (.string ([ofL x0, ofL x1, ofL x2, ofL x3, ofL x4, ofL x5][k]'hk)) from by
     obtain ⟨A', c', e', h'⟩ := h.texts
     cases e'
     obtain ⟨ad', e, h1⟩ := h' k hk
     cases e
     exact h1))
    have hce8 : (w7.setCell ⟨be, 0, none⟩ .nilIface).cell? ⟨be, 0, none⟩ = some .nilIface := blk_cell herr8 0
    clear herr8 hst7 hcells ce hf7 hc6 HTS7 HERR7 HB7 HERR6 HB6 HNE6 HN6 HS5 HPS
    generalize w7.setCell ⟨be, 0, none⟩ .nilIface = W8 at *
    have hmf : (Instr.makeFunc (.func 57) #[] #[.pointer (some ⟨be, 0, none⟩)]).run Tryz.prog W8 = .ok (.func (.func 57) #[] #[.pointer (some ⟨be, 0, none⟩)]) W8 := by kernel_rfl
    go_upto_region 22 with (fail)
    refine wp_region_steps (by kernel_rfl) 123 rfl 7 (fun j v' W => match j with | 0 => v' = (.func (.func 57) #[] #[.pointer (some ⟨be, 0, none⟩)]) | 1 => v' = .slice (some ad) 6 cp | 2 => v' = .pointer (some (ad.add 0)) | 3 => v' = .string (ofL x0) | 4 => BndAt 0 W v' | 5 => ∃ N : Nat, v' = .int .u64 (N : Int) ∧ BitsOf N (m0.F 0) | 6 => ∃ N : Nat, v' = .int .u64 (N : Int) ∧ BitsOf N (m0.F 0) | _ => True) (PG w be loc u (.slice (some ad) 6 cp) [ofL x0, ofL x1, ofL x2, ofL x3, ofL x4, ofL x5]) (fun W W' hS hb => ⟨hS.goes hb, fun j v' hv => (match j, hv with | 0, hv => hv | 1, hv => hv | 2, hv => hv | 3, hv => hv | 4, hv => hv.below hb | 5, hv => hv | 6, hv => hv | _ + 7, _ => trivial)⟩) (by kernel_rfl) (by kernel_rfl) (by kernel_rfl) (by kernel_rfl) (by kernel_rfl) (HPG.out.goes (Below.refl _ _).drew) ?_ ?_
    ·refine ⟨fun _ a w1 hs' hA => ?_, fun _ a w1 hs' hA => ?_, fun _ a w1 hs' hA => ?_, fun _ a w1 hs' hA => ?_, fun _ a w1 hs' hA => ?_, fun _ a w1 hs' hA => ?_, fun _ a w1 hs' hA => ?_, trivial⟩
     ·show Oper.wp _ _ _ _ _ _
      have e12 : a.tmps.getD 12 undef = (.func (.func 57) #[] #[.pointer (some ⟨be, 0, none⟩)]) := hA.old' 12
      clear hA
      have hb := Below.refl w1.heap.size w1
      go_simp
     ·show Oper.wp _ _ _ _ _ _
      have e10 : a.tmps.getD 10 undef = .slice (some ad) 6 cp := hA.old' 10
      clear hA
      have hb := Below.refl w1.heap.size w1
      go_simp
     ·show Oper.wp _ _ _ _ _ _
      have e1 := hA.got' 1 75
      simp only at e1
      clear hA
      have hb := Below.refl w1.heap.size w1
      go_simp
     ·show Oper.wp _ _ _ _ _ _
      have e2 := hA.got' 2 76
      simp only at e2
      clear hA
      have s0 : w1.cell? (ad.add 0) = some (.string (ofL x0)) := HCELL.out w1 hs' 0 (by show 0 < 6; decide)
      have s1 := s0
      rw [Addr.add_zero'] at s1
      have hb := Below.refl w1.heap.size w1
      go_simp
     ·show Oper.wp _ _ _ _ _ _
      clear hA
      go_simp
      refine (seconds_c _).mono ?_
      rintro r w4 ⟨v, rfl, hv, hb4⟩
      exact ⟨_, rfl, hv, hb4⟩
     ·show Oper.wp _ _ _ _ _ _
      have e0 := hA.got' 0 74
      have e3 := hA.got' 3 77
      have e4 := hA.got' 4 78
      simp only at e0 e3 e4
      clear hA
      obtain ⟨vb, hvb⟩ : ∃ x, a.tmps.getD 78 undef = x := ⟨_, rfl⟩
      rw [hvb] at e4
      have HV := Lib.hid e4
      clear e4
      go_simp
      refine (HC0.out vb w1 HV.out be hs'.err).mono ?_
      rintro r w5 ⟨⟨N, rfl, hN⟩, hb5⟩
      exact ⟨_, rfl, ⟨N, rfl, hN⟩, hb5⟩
     ·show Oper.wp _ _ _ _ _ _
      have e5 := hA.got' 5 79
      simp only at e5
      obtain ⟨N, hN, hNb⟩ := e5
      clear hA
      have HNb := Lib.hid hNb
      clear hNb
      go_simp
      exact ⟨_, rfl, ⟨N, rfl, HNb.out⟩, Below.refl _ _⟩
    intro a w4 hs' hA
    show Exit.then _ _ _ _ _
    have g6 : ∃ N : Nat, a.tmps.getD 13 undef = .int .u64 (N : Int) ∧ BitsOf N (m0.F 0) := hA.end' 6 13
    have g5 : ∃ N : Nat, a.tmps.getD 79 undef = .int .u64 (N : Int) ∧ BitsOf N (m0.F 0) := hA.end' 5 79
    obtain ⟨N0, hN0, hNb0⟩ := g6
    obtain ⟨N', hN', _⟩ := g5
    obtain ⟨vb0, hvb0⟩ : ∃ x, a.tmps.getD 78 undef = x := ⟨_, rfl⟩
    obtain rfl := hA.frame [(74, (.func (.func 57) #[] #[.pointer (some ⟨be, 0, none⟩)])), (75, .slice (some ad) 6 cp), (76, .pointer (some (ad.add 0))), (77, .string (ofL x0)), (78, vb0), (79, .int .u64 (N' : Int)), (13, .int .u64 (N0 : Int))] (by
     intro p hp
     simp only [List.mem_cons, List.not_mem_nil, or_false] at hp
     rcases hp with rfl | rfl | rfl | rfl | rfl | rfl | rfl
     ·exact hA.end' 0 74
     ·exact hA.end' 1 75
     ·exact hA.end' 2 76
     ·exact hA.end' 3 77
     ·exact hvb0
     ·exact hN'
     ·exact hN0) (by kernel_rfl)
    clear hA hN0 hN' hvb0
    simp only [List.foldl_cons, List.foldl_nil]
    simp only [List.setIfInBounds_toArray, List.set_cons_zero, List.set_cons_succ]
    have HB0 := Lib.hid hNb0
    clear HPG hNb0
    have HPG := Lib.hid hs'
    clear hs'
    go_upto_region 23 with (fail)
    refine wp_region_steps (by kernel_rfl) 123 rfl 7 (fun j v' W => match j with | 0 => v' = (.func (.func 57) #[] #[.pointer (some ⟨be, 0, none⟩)]) | 1 => v' = .slice (some ad) 6 cp | 2 => v' = .pointer (some (ad.add 1)) | 3 => v' = .string (ofL x1) | 4 => BndAt 1 W v' | 5 => ∃ N : Nat, v' = .int .u64 (N : Int) ∧ BitsOf N (m0.F 1) | 6 => ∃ N : Nat, v' = .int .u64 (N : Int) ∧ BitsOf N (m0.F 1) | _ => True) (PG w be loc u (.slice (some ad) 6 cp) [ofL x0, ofL x1, ofL x2, ofL x3, ofL x4, ofL x5]) (fun W W' hS hb => ⟨hS.goes hb, fun j v' hv => (match j, hv with | 0, hv => hv | 1, hv => hv | 2, hv => hv | 3, hv => hv | 4, hv => hv.below hb | 5, hv => hv | 6, hv => hv | _ + 7, _ => trivial)⟩) (by kernel_rfl) (by kernel_rfl) (by kernel_rfl) (by kernel_rfl) (by kernel_rfl) (HPG.out.goes (Below.refl _ _).drew) ?_ ?_
    ·refine ⟨fun _ a w1 hs' hA => ?_, fun _ a w1 hs' hA => ?_, fun _ a w1 hs' hA => ?_, fun _ a w1 hs' hA => ?_, fun _ a w1 hs' hA => ?_, fun _ a w1 hs' hA => ?_, fun _ a w1 hs' hA => ?_, trivial⟩
     ·show Oper.wp _ _ _ _ _ _
      have e12 : a.tmps.getD 12 undef = (.func (.func 57) #[] #[.pointer (some ⟨be, 0, none⟩)]) := hA.old' 12
      clear hA
      have hb := Below.refl w1.heap.size w1
      go_simp
     ·show Oper.wp _ _ _ _ _ _
      have e10 : a.tmps.getD 10 undef = .slice (some ad) 6 cp := hA.old' 10
      clear hA
      have hb := Below.refl w1.heap.size w1
      go_simp
     ·show Oper.wp _ _ _ _ _ _
      have e1 := hA.got' 1 81
      simp only at e1
      clear hA
      have hb := Below.refl w1.heap.size w1
      go_simp
     ·show Oper.wp _ _ _ _ _ _
      have e2 := hA.got' 2 82
      simp only at e2
      clear hA
      have s0 : w1.cell? (ad.add 1) = some (.string (ofL x1)) := HCELL.out w1 hs' 1 (by show 1 < 6; decide)
      have s1 := s0
      rw [show ad.add 1 = ⟨ad.block, ad.off + 1, none⟩ from rfl] at s1
      have hb := Below.refl w1.heap.size w1
      go_simp
     ·show Oper.wp _ _ _ _ _ _
      clear hA
      go_simp
      refine (minutes_c _).mono ?_
      rintro r w4 ⟨v, rfl, hv, hb4⟩
      exact ⟨_, rfl, hv, hb4⟩
     ·show Oper.wp _ _ _ _ _ _
      have e0 := hA.got' 0 80
      have e3 := hA.got' 3 83
      have e4 := hA.got' 4 84
      simp only at e0 e3 e4
      clear hA
      obtain ⟨vb, hvb⟩ : ∃ x, a.tmps.getD 84 undef = x := ⟨_, rfl⟩
      rw [hvb] at e4
      have HV := Lib.hid e4
      clear e4
      go_simp
      refine (HC1.out vb w1 HV.out be hs'.err).mono ?_
      rintro r w5 ⟨⟨N, rfl, hN⟩, hb5⟩
      exact ⟨_, rfl, ⟨N, rfl, hN⟩, hb5⟩
     ·show Oper.wp _ _ _ _ _ _
      have e5 := hA.got' 5 85
      simp only at e5
      obtain ⟨N, hN, hNb⟩ := e5
      clear hA
      have HNb := Lib.hid hNb
      clear hNb
      go_simp
      exact ⟨_, rfl, ⟨N, rfl, HNb.out⟩, Below.refl _ _⟩
    intro a w4 hs' hA
    show Exit.then _ _ _ _ _
    have g6 : ∃ N : Nat, a.tmps.getD 14 undef = .int .u64 (N : Int) ∧ BitsOf N (m0.F 1) := hA.end' 6 14
    have g5 : ∃ N : Nat, a.tmps.getD 85 undef = .int .u64 (N : Int) ∧ BitsOf N (m0.F 1) := hA.end' 5 85
    obtain ⟨N1, hN1, hNb1⟩ := g6
    obtain ⟨N', hN', _⟩ := g5
    obtain ⟨vb1, hvb1⟩ : ∃ x, a.tmps.getD 84 undef = x := ⟨_, rfl⟩
    obtain rfl := hA.frame [(80, (.func (.func 57) #[] #[.pointer (some ⟨be, 0, none⟩)])), (81, .slice (some ad) 6 cp), (82, .pointer (some (ad.add 1))), (83, .string (ofL x1)), (84, vb1), (85, .int .u64 (N' : Int)), (14, .int .u64 (N1 : Int))] (by
     intro p hp
     simp only [List.mem_cons, List.not_mem_nil, or_false] at hp
     rcases hp with rfl | rfl | rfl | rfl | rfl | rfl | rfl
     ·exact hA.end' 0 80
     ·exact hA.end' 1 81
     ·exact hA.end' 2 82
     ·exact hA.end' 3 83
     ·exact hvb1
     ·exact hN'
     ·exact hN1) (by kernel_rfl)
    clear hA hN1 hN' hvb1
    simp only [List.foldl_cons, List.foldl_nil]
    simp only [List.setIfInBounds_toArray, List.set_cons_zero, List.set_cons_succ]
    have HB1 := Lib.hid hNb1
    clear HPG hNb1
    have HPG := Lib.hid hs'
    clear hs'
    go_upto_region 24 with (fail)
    refine wp_region_steps (by kernel_rfl) 123 rfl 7 (fun j v' W => match j with | 0 => v' = (.func (.func 57) #[] #[.pointer (some ⟨be, 0, none⟩)]) | 1 => v' = .slice (some ad) 6 cp | 2 => v' = .pointer (some (ad.add 2)) | 3 => v' = .string (ofL x2) | 4 => BndAt 2 W v' | 5 => ∃ N : Nat, v' = .int .u64 (N : Int) ∧ BitsOf N (m0.F 2) | 6 => ∃ N : Nat, v' = .int .u64 (N : Int) ∧ BitsOf N (m0.F 2) | _ => True) (PG w be loc u (.slice (some ad) 6 cp) [ofL x0, ofL x1, ofL x2, ofL x3, ofL x4, ofL x5]) (fun W W' hS hb => ⟨hS.goes hb, fun j v' hv => (match j, hv with | 0, hv => hv | 1, hv => hv | 2, hv => hv | 3, hv => hv | 4, hv => hv.below hb | 5, hv => hv | 6, hv => hv | _ + 7, _ => trivial)⟩) (by kernel_rfl) (by kernel_rfl) (by kernel_rfl) (by kernel_rfl) (by kernel_rfl) (HPG.out.goes (Below.refl _ _).drew) ?_ ?_
    ·refine ⟨fun _ a w1 hs' hA => ?_, fun _ a w1 hs' hA => ?_, fun _ a w1 hs' hA => ?_, fun _ a w1 hs' hA => ?_, fun _ a w1 hs' hA => ?_, fun _ a w1 hs' hA => ?_, fun _ a w1 hs' hA => ?_, trivial⟩
     ·show Oper.wp _ _ _ _ _ _
      have e12 : a.tmps.getD 12 undef = (.func (.func 57) #[] #[.pointer (some ⟨be, 0, none⟩)]) := hA.old' 12
      clear hA
      have hb := Below.refl w1.heap.size w1
      go_simp
     ·show Oper.wp _ _ _ _ _ _
      have e10 : a.tmps.getD 10 undef = .slice (some ad) 6 cp := hA.old' 10
      clear hA
      have hb := Below.refl w1.heap.size w1
      go_simp
     ·show Oper.wp _ _ _ _ _ _
      have e1 := hA.got' 1 87
      simp only at e1
      clear hA
      have hb := Below.refl w1.heap.size w1
      go_simp
     ·show Oper.wp _ _ _ _ _ _
      have e2 := hA.got' 2 88
      simp only at e2
      clear hA
      have s0 : w1.cell? (ad.add 2) = some (.string (ofL x2)) := HCELL.out w1 hs' 2 (by show 2 < 6; decide)
      have s1 := s0
      rw [show ad.add 2 = ⟨ad.block, ad.off + 2, none⟩ from rfl] at s1
      have hb := Below.refl w1.heap.size w1
      go_simp
     ·show Oper.wp _ _ _ _ _ _
      clear hA
      go_simp
      refine (hours_c _).mono ?_
      rintro r w4 ⟨v, rfl, hv, hb4⟩
      exact ⟨_, rfl, hv, hb4⟩
     ·show Oper.wp _ _ _ _ _ _
      have e0 := hA.got' 0 86
      have e3 := hA.got' 3 89
      have e4 := hA.got' 4 90
      simp only at e0 e3 e4
      clear hA
      obtain ⟨vb, hvb⟩ : ∃ x, a.tmps.getD 90 undef = x := ⟨_, rfl⟩
      rw [hvb] at e4
      have HV := Lib.hid e4
      clear e4
      go_simp
      refine (HC2.out vb w1 HV.out be hs'.err).mono ?_
      rintro r w5 ⟨⟨N, rfl, hN⟩, hb5⟩
      exact ⟨_, rfl, ⟨N, rfl, hN⟩, hb5⟩
     ·show Oper.wp _ _ _ _ _ _
      have e5 := hA.got' 5 91
      simp only at e5
      obtain ⟨N, hN, hNb⟩ := e5
      clear hA
      have HNb := Lib.hid hNb
      clear hNb
      go_simp
      exact ⟨_, rfl, ⟨N, rfl, HNb.out⟩, Below.refl _ _⟩
    intro a w4 hs' hA
    show Exit.then _ _ _ _ _
    have g6 : ∃ N : Nat, a.tmps.getD 15 undef = .int .u64 (N : Int) ∧ BitsOf N (m0.F 2) := hA.end' 6 15
    have g5 : ∃ N : Nat, a.tmps.getD 91 undef = .int .u64 (N : Int) ∧ BitsOf N (m0.F 2) := hA.end' 5 91
    obtain ⟨N2, hN2, hNb2⟩ := g6
    obtain ⟨N', hN', _⟩ := g5
    obtain ⟨vb2, hvb2⟩ : ∃ x, a.tmps.getD 90 undef = x := ⟨_, rfl⟩
    obtain rfl := hA.frame [(86, (.func (.func 57) #[] #[.pointer (some ⟨be, 0, none⟩)])), (87, .slice (some ad) 6 cp), (88, .pointer (some (ad.add 2))), (89, .string (ofL x2)), (90, vb2), (91, .int .u64 (N' : Int)), (15, .int .u64 (N2 : Int))] (by
     intro p hp
     simp only [List.mem_cons, List.not_mem_nil, or_false] at hp
     rcases hp with rfl | rfl | rfl | rfl | rfl | rfl | rfl
     ·exact hA.end' 0 86
     ·exact hA.end' 1 87
     ·exact hA.end' 2 88
     ·exact hA.end' 3 89
     ·exact hvb2
     ·exact hN'
     ·exact hN2) (by kernel_rfl)
    clear hA hN2 hN' hvb2
    simp only [List.foldl_cons, List.foldl_nil]
    simp only [List.setIfInBounds_toArray, List.set_cons_zero, List.set_cons_succ]
    have HB2 := Lib.hid hNb2
    clear HPG hNb2
    have HPG := Lib.hid hs'
    clear hs'
    go_upto_region 25 with (fail)
    refine wp_region_steps (by kernel_rfl) 123 rfl 7 (fun j v' W => match j with | 0 => v' = (.func (.func 57) #[] #[.pointer (some ⟨be, 0, none⟩)]) | 1 => v' = .slice (some ad) 6 cp | 2 => v' = .pointer (some (ad.add 3)) | 3 => v' = .string (ofL x3) | 4 => BndAt 3 W v' | 5 => ∃ N : Nat, v' = .int .u64 (N : Int) ∧ BitsOf N (m0.F 3) | 6 => ∃ N : Nat, v' = .int .u64 (N : Int) ∧ BitsOf N (m0.F 3) | _ => True) (PG w be loc u (.slice (some ad) 6 cp) [ofL x0, ofL x1, ofL x2, ofL x3, ofL x4, ofL x5]) (fun W W' hS hb => ⟨hS.goes hb, fun j v' hv => (match j, hv with | 0, hv => hv | 1, hv => hv | 2, hv => hv | 3, hv => hv | 4, hv => hv.below hb | 5, hv => hv | 6, hv => hv | _ + 7, _ => trivial)⟩) (by kernel_rfl) (by kernel_rfl) (by kernel_rfl) (by kernel_rfl) (by kernel_rfl) (HPG.out.goes (Below.refl _ _).drew) ?_ ?_
    ·refine ⟨fun _ a w1 hs' hA => ?_, fun _ a w1 hs' hA => ?_, fun _ a w1 hs' hA => ?_, fun _ a w1 hs' hA => ?_, fun _ a w1 hs' hA => ?_, fun _ a w1 hs' hA => ?_, fun _ a w1 hs' hA => ?_, trivial⟩
     ·show Oper.wp _ _ _ _ _ _
      have e12 : a.tmps.getD 12 undef = (.func (.func 57) #[] #[.pointer (some ⟨be, 0, none⟩)]) := hA.old' 12
      clear hA
      have hb := Below.refl w1.heap.size w1
      go_simp
     ·show Oper.wp _ _ _ _ _ _
      have e10 : a.tmps.getD 10 undef = .slice (some ad) 6 cp := hA.old' 10
      clear hA
      have hb := Below.refl w1.heap.size w1
      go_simp
     ·show Oper.wp _ _ _ _ _ _
      have e1 := hA.got' 1 93
      simp only at e1
      clear hA
      have hb := Below.refl w1.heap.size w1
      go_simp
     ·show Oper.wp _ _ _ _ _ _
      have e2 := hA.got' 2 94
      simp only at e2
      clear hA
      have s0 : w1.cell? (ad.add 3) = some (.string (ofL x3)) := HCELL.out w1 hs' 3 (by show 3 < 6; decide)
      have s1 := s0
      rw [show ad.add 3 = ⟨ad.block, ad.off + 3, none⟩ from rfl] at s1
      have hb := Below.refl w1.heap.size w1
      go_simp
     ·show Oper.wp _ _ _ _ _ _
      clear hA
      go_simp
      refine (dom_c _).mono ?_
      rintro r w4 ⟨v, rfl, hv, hb4⟩
      exact ⟨_, rfl, hv, hb4⟩
     ·show Oper.wp _ _ _ _ _ _
      have e0 := hA.got' 0 92
      have e3 := hA.got' 3 95
      have e4 := hA.got' 4 96
      simp only at e0 e3 e4
      clear hA
      obtain ⟨vb, hvb⟩ : ∃ x, a.tmps.getD 96 undef = x := ⟨_, rfl⟩
      rw [hvb] at e4
      have HV := Lib.hid e4
      clear e4
      go_simp
      refine (HC3.out vb w1 HV.out be hs'.err).mono ?_
      rintro r w5 ⟨⟨N, rfl, hN⟩, hb5⟩
      exact ⟨_, rfl, ⟨N, rfl, hN⟩, hb5⟩
     ·show Oper.wp _ _ _ _ _ _
      have e5 := hA.got' 5 97
      simp only at e5
      obtain ⟨N, hN, hNb⟩ := e5
      clear hA
      have HNb := Lib.hid hNb
      clear hNb
      go_simp
      exact ⟨_, rfl, ⟨N, rfl, HNb.out⟩, Below.refl _ _⟩
    intro a w4 hs' hA
    show Exit.then _ _ _ _ _
    have g6 : ∃ N : Nat, a.tmps.getD 16 undef = .int .u64 (N : Int) ∧ BitsOf N (m0.F 3) := hA.end' 6 16
    have g5 : ∃ N : Nat, a.tmps.getD 97 undef = .int .u64 (N : Int) ∧ BitsOf N (m0.F 3) := hA.end' 5 97
    obtain ⟨N3, hN3, hNb3⟩ := g6
    obtain ⟨N', hN', _⟩ := g5
    obtain ⟨vb3, hvb3⟩ : ∃ x, a.tmps.getD 96 undef = x := ⟨_, rfl⟩
    obtain rfl := hA.frame [(92, (.func (.func 57) #[] #[.pointer (some ⟨be, 0, none⟩)])), (93, .slice (some ad) 6 cp), (94, .pointer (some (ad.add 3))), (95, .string (ofL x3)), (96, vb3), (97, .int .u64 (N' : Int)), (16, .int .u64 (N3 : Int))] (by
     intro p hp
     simp only [List.mem_cons, List.not_mem_nil, or_false] at hp
     rcases hp with rfl | rfl | rfl | rfl | rfl | rfl | rfl
     ·exact hA.end' 0 92
     ·exact hA.end' 1 93
     ·exact hA.end' 2 94
     ·exact hA.end' 3 95
     ·exact hvb3
     ·exact hN'
     ·exact hN3) (by kernel_rfl)
    clear hA hN3 hN' hvb3
    simp only [List.foldl_cons, List.foldl_nil]
    simp only [List.setIfInBounds_toArray, List.set_cons_zero, List.set_cons_succ]
    have HB3 := Lib.hid hNb3
    clear HPG hNb3
    have HPG := Lib.hid hs'
    clear hs'
    go_upto_region 26 with (fail)
    refine wp_region_steps (by kernel_rfl) 123 rfl 7 (fun j v' W => match j with | 0 => v' = (.func (.func 57) #[] #[.pointer (some ⟨be, 0, none⟩)]) | 1 => v' = .slice (some ad) 6 cp | 2 => v' = .pointer (some (ad.add 4)) | 3 => v' = .string (ofL x4) | 4 => BndAt 4 W v' | 5 => ∃ N : Nat, v' = .int .u64 (N : Int) ∧ BitsOf N (m0.F 4) | 6 => ∃ N : Nat, v' = .int .u64 (N : Int) ∧ BitsOf N (m0.F 4) | _ => True) (PG w be loc u (.slice (some ad) 6 cp) [ofL x0, ofL x1, ofL x2, ofL x3, ofL x4, ofL x5]) (fun W W' hS hb => ⟨hS.goes hb, fun j v' hv => (match j, hv with | 0, hv => hv | 1, hv => hv | 2, hv => hv | 3, hv => hv | 4, hv => hv.below hb | 5, hv => hv | 6, hv => hv | _ + 7, _ => trivial)⟩) (by kernel_rfl) (by kernel_rfl) (by kernel_rfl) (by kernel_rfl) (by kernel_rfl) (HPG.out.goes (Below.refl _ _).drew) ?_ ?_
    ·refine ⟨fun _ a w1 hs' hA => ?_, fun _ a w1 hs' hA => ?_, fun _ a w1 hs' hA => ?_, fun _ a w1 hs' hA => ?_, fun _ a w1 hs' hA => ?_, fun _ a w1 hs' hA => ?_, fun _ a w1 hs' hA => ?_, trivial⟩
     ·show Oper.wp _ _ _ _ _ _
      have e12 : a.tmps.getD 12 undef = (.func (.func 57) #[] #[.pointer (some ⟨be, 0, none⟩)]) := hA.old' 12
      clear hA
      have hb := Below.refl w1.heap.size w1
      go_simp
     ·show Oper.wp _ _ _ _ _ _
      have e10 : a.tmps.getD 10 undef = .slice (some ad) 6 cp := hA.old' 10
      clear hA
      have hb := Below.refl w1.heap.size w1
      go_simp
     ·show Oper.wp _ _ _ _ _ _
      have e1 := hA.got' 1 99
      simp only at e1
      clear hA
      have hb := Below.refl w1.heap.size w1
      go_simp
     ·show Oper.wp _ _ _ _ _ _
      have e2 := hA.got' 2 100
      simp only at e2
      clear hA
      have s0 : w1.cell? (ad.add 4) = some (.string (ofL x4)) := HCELL.out w1 hs' 4 (by show 4 < 6; decide)
      have s1 := s0
      rw [show ad.add 4 = ⟨ad.block, ad.off + 4, none⟩ from rfl] at s1
      have hb := Below.refl w1.heap.size w1
      go_simp
     ·show Oper.wp _ _ _ _ _ _
      clear hA
      go_simp
      refine (months_c _).mono ?_
      rintro r w4 ⟨v, rfl, hv, hb4⟩
      exact ⟨_, rfl, hv, hb4⟩
     ·show Oper.wp _ _ _ _ _ _
      have e0 := hA.got' 0 98
      have e3 := hA.got' 3 101
      have e4 := hA.got' 4 102
      simp only at e0 e3 e4
      clear hA
      obtain ⟨vb, hvb⟩ : ∃ x, a.tmps.getD 102 undef = x := ⟨_, rfl⟩
      rw [hvb] at e4
      have HV := Lib.hid e4
      clear e4
      go_simp
      refine (HC4.out vb w1 HV.out be hs'.err).mono ?_
      rintro r w5 ⟨⟨N, rfl, hN⟩, hb5⟩
      exact ⟨_, rfl, ⟨N, rfl, hN⟩, hb5⟩
     ·show Oper.wp _ _ _ _ _ _
      have e5 := hA.got' 5 103
      simp only at e5
      obtain ⟨N, hN, hNb⟩ := e5
      clear hA
      have HNb := Lib.hid hNb
      clear hNb
      go_simp
      exact ⟨_, rfl, ⟨N, rfl, HNb.out⟩, Below.refl _ _⟩
    intro a w4 hs' hA
    show Exit.then _ _ _ _ _
    have g6 : ∃ N : Nat, a.tmps.getD 17 undef = .int .u64 (N : Int) ∧ BitsOf N (m0.F 4) := hA.end' 6 17
    have g5 : ∃ N : Nat, a.tmps.getD 103 undef = .int .u64 (N : Int) ∧ BitsOf N (m0.F 4) := hA.end' 5 103
    obtain ⟨N4, hN4, hNb4⟩ := g6
    obtain ⟨N', hN', _⟩ := g5
    obtain ⟨vb4, hvb4⟩ : ∃ x, a.tmps.getD 102 undef = x := ⟨_, rfl⟩
    obtain rfl := hA.frame [(98, (.func (.func 57) #[] #[.pointer (some ⟨be, 0, none⟩)])), (99, .slice (some ad) 6 cp), (100, .pointer (some (ad.add 4))), (101, .string (ofL x4)), (102, vb4), (103, .int .u64 (N' : Int)), (17, .int .u64 (N4 : Int))] (by
     intro p hp
     simp only [List.mem_cons, List.not_mem_nil, or_false] at hp
     rcases hp with rfl | rfl | rfl | rfl | rfl | rfl | rfl
     ·exact hA.end' 0 98
     ·exact hA.end' 1 99
     ·exact hA.end' 2 100
     ·exact hA.end' 3 101
     ·exact hvb4
     ·exact hN'
     ·exact hN4) (by kernel_rfl)
    clear hA hN4 hN' hvb4
    simp only [List.foldl_cons, List.foldl_nil]
    simp only [List.setIfInBounds_toArray, List.set_cons_zero, List.set_cons_succ]
    have HB4 := Lib.hid hNb4
    clear HPG hNb4
    have HPG := Lib.hid hs'
    clear hs'
    go_upto_region 27 with (fail)
    refine wp_region_steps (by kernel_rfl) 123 rfl 7 (fun j v' W => match j with | 0 => v' = (.func (.func 57) #[] #[.pointer (some ⟨be, 0, none⟩)]) | 1 => v' = .slice (some ad) 6 cp | 2 => v' = .pointer (some (ad.add 5)) | 3 => v' = .string (ofL x5) | 4 => BndAt 5 W v' | 5 => ∃ N : Nat, v' = .int .u64 (N : Int) ∧ BitsOf N (m0.F 5) | 6 => ∃ N : Nat, v' = .int .u64 (N : Int) ∧ BitsOf N (m0.F 5) | _ => True) (PG w be loc u (.slice (some ad) 6 cp) [ofL x0, ofL x1, ofL x2, ofL x3, ofL x4, ofL x5]) (fun W W' hS hb => ⟨hS.goes hb, fun j v' hv => (match j, hv with | 0, hv => hv | 1, hv => hv | 2, hv => hv | 3, hv => hv | 4, hv => hv.below hb | 5, hv => hv | 6, hv => hv | _ + 7, _ => trivial)⟩) (by kernel_rfl) (by kernel_rfl) (by kernel_rfl) (by kernel_rfl) (by kernel_rfl) (HPG.out.goes (Below.refl _ _).drew) ?_ ?_
    ·refine ⟨fun _ a w1 hs' hA => ?_, fun _ a w1 hs' hA => ?_, fun _ a w1 hs' hA => ?_, fun _ a w1 hs' hA => ?_, fun _ a w1 hs' hA => ?_, fun _ a w1 hs' hA => ?_, fun _ a w1 hs' hA => ?_, trivial⟩
     ·show Oper.wp _ _ _ _ _ _
      have e12 : a.tmps.getD 12 undef = (.func (.func 57) #[] #[.pointer (some ⟨be, 0, none⟩)]) := hA.old' 12
      clear hA
      have hb := Below.refl w1.heap.size w1
      go_simp
     ·show Oper.wp _ _ _ _ _ _
      have e10 : a.tmps.getD 10 undef = .slice (some ad) 6 cp := hA.old' 10
      clear hA
      have hb := Below.refl w1.heap.size w1
      go_simp
     ·show Oper.wp _ _ _ _ _ _
      have e1 := hA.got' 1 105
      simp only at e1
      clear hA
      have hb := Below.refl w1.heap.size w1
      go_simp
     ·show Oper.wp _ _ _ _ _ _
      have e2 := hA.got' 2 106
      simp only at e2
      clear hA
      have s0 : w1.cell? (ad.add 5) = some (.string (ofL x5)) := HCELL.out w1 hs' 5 (by show 5 < 6; decide)
      have s1 := s0
      rw [show ad.add 5 = ⟨ad.block, ad.off + 5, none⟩ from rfl] at s1
      have hb := Below.refl w1.heap.size w1
      go_simp
     ·show Oper.wp _ _ _ _ _ _
      clear hA
      go_simp
      refine (dow_c _).mono ?_
      rintro r w4 ⟨v, rfl, hv, hb4⟩
      exact ⟨_, rfl, hv, hb4⟩
     ·show Oper.wp _ _ _ _ _ _
      have e0 := hA.got' 0 104
      have e3 := hA.got' 3 107
      have e4 := hA.got' 4 108
      simp only at e0 e3 e4
      clear hA
      obtain ⟨vb, hvb⟩ : ∃ x, a.tmps.getD 108 undef = x := ⟨_, rfl⟩
      rw [hvb] at e4
      have HV := Lib.hid e4
      clear e4
      go_simp
      refine (HC5.out vb w1 HV.out be hs'.err).mono ?_
      rintro r w5 ⟨⟨N, rfl, hN⟩, hb5⟩
      exact ⟨_, rfl, ⟨N, rfl, hN⟩, hb5⟩
     ·show Oper.wp _ _ _ _ _ _
      have e5 := hA.got' 5 109
      simp only at e5
      obtain ⟨N, hN, hNb⟩ := e5
      clear hA
      have HNb := Lib.hid hNb
      clear hNb
      go_simp
      exact ⟨_, rfl, ⟨N, rfl, HNb.out⟩, Below.refl _ _⟩
    intro a w4 hs' hA
    show Exit.then _ _ _ _ _
    have g6 : ∃ N : Nat, a.tmps.getD 18 undef = .int .u64 (N : Int) ∧ BitsOf N (m0.F 5) := hA.end' 6 18
    have g5 : ∃ N : Nat, a.tmps.getD 109 undef = .int .u64 (N : Int) ∧ BitsOf N (m0.F 5) := hA.end' 5 109
    obtain ⟨N5, hN5, hNb5⟩ := g6
    obtain ⟨N', hN', _⟩ := g5
    obtain ⟨vb5, hvb5⟩ : ∃ x, a.tmps.getD 108 undef = x := ⟨_, rfl⟩
    obtain rfl := hA.frame [(104, (.func (.func 57) #[] #[.pointer (some ⟨be, 0, none⟩)])), (105, .slice (some ad) 6 cp), (106, .pointer (some (ad.add 5))), (107, .string (ofL x5)), (108, vb5), (109, .int .u64 (N' : Int)), (18, .int .u64 (N5 : Int))] (by
     intro p hp
     simp only [List.mem_cons, List.not_mem_nil, or_false] at hp
     rcases hp with rfl | rfl | rfl | rfl | rfl | rfl | rfl
     ·exact hA.end' 0 104
     ·exact hA.end' 1 105
     ·exact hA.end' 2 106
     ·exact hA.end' 3 107
     ·exact hvb5
     ·exact hN'
     ·exact hN5) (by kernel_rfl)
    clear hA hN5 hN' hvb5
    simp only [List.foldl_cons, List.foldl_nil]
    simp only [List.setIfInBounds_toArray, List.set_cons_zero, List.set_cons_succ]
    have HB5 := Lib.hid hNb5
    clear HPG hNb5
    have HPG := Lib.hid hs'
    clear hs'
    have hce9 : w4.cell? ⟨be, 0, none⟩ = some .nilIface := blk_cell HPG.out.err 0
    clear HCELL HC0 HC1 HC2 HC3 HC4 HC5 hce8 hmf
    go_wp2
    go_ret2
    exact ⟨⟨_, loc, u, rfl, HM0.out _ _ _ (.inl ⟨HEV.out, spec_out w4 m0 loc _ _ _ _ _ _ HB0.out HB1.out HB2.out HB3.out HB4.out HB5.out⟩), HPG.out.loc.below (below_alloc (Below.refl _ _) _), HUTC.out⟩, below_alloc HPG.out.below _⟩
   ·rw [hat] at HPF
    have h256' : (Go.bits .and .i64 (o : Int) 256 == 0) = false := by simpa using h256
    have HD := Lib.hid (fun loc => parseDescriptor_c st (by omega) m0 hde loc)
    have hu78 := Tryz.underlying78
    clear hat h256 hde
    go_wp2_with (first
     | (go_at_call 50; refine (strings_HasPrefix.calls st (ofL [64]) true _ HPF.out).mono ?_; rintro e w5 ⟨rfl, hb5⟩; have HS5 := Lib.hid (HPS.out.goes hb5.below); have c5 := HS5.out.cell; clear hb5)
     | (go_at_call 54; refine (HD.out loc _).mono ?_; rintro e w6 ⟨⟨v, rfl, hv⟩, hb6⟩; have HS6 := Lib.hid (HS5.out.goes hb6); have HV := Lib.hid hv; clear hb6 hv))
    go_ret2
    exact ⟨⟨v, loc, u, rfl, HM0.out _ _ _ HV.out, HS6.out.loc, HUTC.out⟩, HS6.out.below⟩
end Go.Proofs.YtcjdideliifkhaaGreatDoor
