import Derived.Test.YtcjdideliifkhaaGreatDoorB44
set_option maxRecDepth 100000
set_option maxHeartbeats 16000000
namespace Go.Proofs.YtcjdideliifkhaaGreatDoor
open Go.RowKit Go.Maps Go.Proofs.YtcjdideliifkhaaGreatDoorW.PrintWords Go.Proofs.YtcjdideliifkhaaGreatDoorW.PrintLast Go.Proofs.YtcjdideliifkhaaGreatDoorW.PrintMore PFnCronTextAfterAnywhere
open Mrg (Sts upd mergeL leastL)
set_option linter.unusedVariables false
set_option linter.unusedSimpArgs false
theorem lawM_c (v : Value) (l : List ByteArray) (hl : l.length ≤ maxLen) (hz : ∀ t ∈ l, t.size ≤ maxLen) (s ns : Int) (N : Int) (w : World) (hv : Strs w v l) :
  Calls Tryz.prog 4 #[v, .agg #[.int .i64 s, .int .i64 ns], .int .i64 N] w fun e w' => e = .returned (.bool true) ∧ Below w.heap.size w w' := by
 have hu23 := Tryz.underlying23
 have HV := Lib.hid hv
 obtain ⟨A, c, rfl, -⟩ := hv
 have hlen := hl
 unfold maxLen at hlen
 obtain ⟨n, hn⟩ : ∃ n, l.length = n := ⟨_, rfl⟩
 have HF := Lib.hid (fun w' (hb : Below w.heap.size w w') => fits2_c (.slice A l.length c) l hl w' (HV.out.below hb) hz)
 obtain ⟨gr, hgr, hgc⟩ := good_c s ns
 have HGR := Lib.hid hgr
 have HGC := Lib.hid hgc
 have hB0 := Lib.hid (below_alloc (Below.refl w.heap.size w) (.cells #[.int .i64 s, .int .i64 ns] 23))
 have hT0 := Lib.hid (blk_new w (.cells #[.int .i64 s, .int .i64 ns] 23))
 have HN := Lib.hid hn
 rw [hn] at HF hlen ⊢
 clear hgr hgc hl hz hn
 go_enter Tryz.func4, Tryz.ntmps4
 go_upto_if 32 with (first | (go_at_call 15; refine (HF.out _ hB0.out).mono ?_; clear HF; rintro e w1 ⟨⟨rf, rfl, hrf⟩, hb1⟩; have HRF := Lib.hid hrf; have HB1 := Lib.hid (below_step hB0.out hb1); have HT1 := Lib.hid (blk_below hT0.out hb1); clear hrf hb1))
 cases rf with
 | false =>
  go_wp2
  go_ret
  exact ⟨rfl, HB1.out⟩
 | true =>
 obtain ⟨b1, h1⟩ : ∃ b, ((n : Int) == 0) = b := ⟨_, rfl⟩
 obtain ⟨b2, h2⟩ : ∃ b, decide (5 < (n : Int)) = b := ⟨_, rfl⟩
 obtain ⟨b3, h3⟩ : ∃ b, decide (N < 1) = b := ⟨_, rfl⟩
 obtain ⟨b4, h4⟩ : ∃ b, decide (30 < N) = b := ⟨_, rfl⟩
 have l0 := blk_cell HT1.out 0
 have l1 := blk_cell HT1.out 1
 by_cases hbad : (b1 || b2 || b3 || b4) = true
 ·cases b1
  ·cases b2
   ·cases b3
    ·cases b4
     ·exact absurd hbad (by decide)
     ·go_wp2
      go_ret
      exact ⟨rfl, HB1.out⟩
    ·go_wp2
     go_ret
     exact ⟨rfl, HB1.out⟩
   ·go_wp2
    go_ret
    exact ⟨rfl, HB1.out⟩
  ·go_wp2
   go_ret
   exact ⟨rfl, HB1.out⟩
 have e1 : b1 = false := by cases b1 <;> simp_all
 have e2 : b2 = false := by cases b2 <;> simp_all
 have e3 : b3 = false := by cases b3 <;> simp_all
 have e4 : b4 = false := by cases b4 <;> simp_all
 subst e1 e2 e3 e4
 have HC := Lib.hid (And.intro h1 (And.intro h2 (And.intro h3 h4)))
 clear hbad
 cases gr with
 | false =>
  go_wp2_with (first | (go_at_call 7; refine (HGC.out _).mono ?_; clear HGC; rintro e w2 ⟨rfl, hb2⟩))
  go_ret
  exact ⟨rfl, below_step HB1.out hb2⟩
 | true =>
 go_upto_region 5 with (first | (go_at_call 7; refine (HGC.out _).mono ?_; clear HGC; rintro e w2 ⟨rfl, hb2⟩; have HB2 := Lib.hid (below_step HB1.out hb2); have HT2 := Lib.hid (blk_below HT1.out hb2); clear hb2))
 obtain ⟨hs0, hs1, hn0, hn1⟩ := HGR.out (by simp)
 have hc := HC.out
 have k1 : 0 < n := by have := hc.1; simp at this; omega
 have k2 : n ≤ 5 := by have := of_decide_eq_false hc.2.1; omega
 have k3 : 1 ≤ N := by have := of_decide_eq_false hc.2.2.1; omega
 have k4 : N ≤ 30 := by have := of_decide_eq_false hc.2.2.2; omega
 clear hc h1 h2 h3 h4 l0 l1
 have HME := Lib.hid (fun w' (hb : Below w.heap.size w w') => meanings_c (.slice A l.length c) l (by rw [HN.out]; exact k2) w' (HV.out.below hb) (HRF.out (by simp)))
 rw [HN.out] at HME
 go_upto_if 60 with (first | (go_at_call 16; refine (HME.out _ HB2.out).mono ?_; clear HME; rintro e w3 ⟨v7, ok, rfl, hb3, hok⟩; have HB3 := Lib.hid (below_step HB2.out hb3); have HT3 := Lib.hid (blk_below HT2.out hb3); have HOK := Lib.hid hok; have HWM := Lib.hid (show w.heap.size ≤ w2.heap.size from HB2.out.size); clear hb3 hok))
 cases ok with
 | false =>
  go_wp2
  go_ret
  exact ⟨rfl, HB3.out⟩
 | true =>
 obtain ⟨ms, hml, hms⟩ := HOK.out (by simp)
 obtain ⟨gM, cM, rfl, hgM, hrow⟩ := hms.blk (fun h => by rw [h] at hml; simp at hml; omega)
 have hgood := hms.good
 rw [hml]
 have HML := Lib.hid hml
 have HRW := Lib.hid hrow
 have HGD := Lib.hid (show ∀ k (h : k < n), ∃ (h1 : k < l.length) (h2 : k < ms.length), ParseR 380 (toL l[k]) ms[k] ∧ ms[k].utc = false ∧ l[k].size ≤ 500 from fun k h => ⟨by rw [HN.out]; exact h, by rw [hml]; exact h, hgood k (by rw [hml]; exact h)⟩)
 clear hml hms hrow hgood HOK HRF HGR HC
 go_upto_region 9 with (fail)
 have hS0 : Below w.heap.size w w3.drew := HB3.out.drew
 refine wp_region_steps (by kernel_rfl) 254 rfl 8 (fun j v W => match j with | 0 => v = .slice (some ⟨gM, 0, none⟩) n cM | 1 => v = .int .i64 (n : Int) | 2 => ∃ g, w.heap.size < g ∧ v = .slice (some ⟨g, 0, none⟩) n n ∧ ABlk W g n 0 (fun _ => 0) | 3 => v = .slice (some ⟨gM, 0, none⟩) n cM | 4 => v = .int .i64 (n : Int) | 5 => ∃ g, w.heap.size < g ∧ v = .slice (some ⟨g, 0, none⟩) n n ∧ ZBlk W g n 0 (fun _ => false) | 6 => ∃ g, w.heap.size < g ∧ v = .slice (some ⟨g, 0, none⟩) n n ∧ ABlk W g n 0 (fun _ => 0) | 7 => ∃ g, w.heap.size < g ∧ v = .slice (some ⟨g, 0, none⟩) n n ∧ ZBlk W g n 0 (fun _ => false) | _ => True)
  (fun W => Below w.heap.size w W ∧ Below w3.heap.size w3 W) (fun w w' hS hb => ⟨⟨below_step hS.1 hb, below_step hS.2 hb⟩, fun j v h => by
   match j, h with
   | 0, h => exact h
   | 1, h => exact h
   | 2, ⟨g, a, b, h⟩ => exact ⟨g, a, b, h.goes hb⟩
   | 3, h => exact h
   | 4, h => exact h
   | 5, ⟨g, a, b, h⟩ => exact ⟨g, a, b, h.goes hb⟩
   | 6, ⟨g, a, b, h⟩ => exact ⟨g, a, b, h.goes hb⟩
   | 7, ⟨g, a, b, h⟩ => exact ⟨g, a, b, h.goes hb⟩
   | _ + 8, h => exact h⟩) (by kernel_rfl) (by kernel_rfl) (by kernel_rfl) (by kernel_rfl) (by kernel_rfl) ⟨hS0, (Below.refl _ _).drew⟩ ?_ ?_
 ·refine ⟨fun _ a w4 hs' hA => ?_, fun _ a w4 hs' hA => ?_, fun _ a w4 hs' hA => ?_, fun _ a w4 hs' hA => ?_, fun _ a w4 hs' hA => ?_, fun _ a w4 hs' hA => ?_, fun _ a w4 hs' hA => ?_, fun _ a w4 hs' hA => ?_, trivial⟩
  ·have e : a.tmps.getD 7 undef = .slice (some ⟨gM, 0, none⟩) n cM := hA.old' 7
   clear hA
   have hb := Below.refl w4.heap.size w4
   show Oper.wp _ _ _ _ _ _
   go_simp
  ·have e : a.tmps.getD 61 undef = .slice (some ⟨gM, 0, none⟩) n cM := hA.got' 0 61
   clear hA
   have hb := Below.refl w4.heap.size w4
   show Oper.wp _ _ _ _ _ _
   go_simp
  ·have e : a.tmps.getD 62 undef = .int .i64 (n : Int) := hA.got' 1 62
   clear hA
   have hsz := hs'.2.size
   have hsy := blk_lt HT3.out
   show Oper.wp _ _ _ _ _ _
   refine wp_makeA (.tmp 62) (.tmp 62) rfl n k2 (by simpa [Act.eval] using e) (by simpa [Act.eval] using e) ?_
   intro g hg w5 ha hb
   exact ⟨_, rfl, ⟨g, by omega, rfl, ha⟩, hb⟩
  ·have e : a.tmps.getD 7 undef = .slice (some ⟨gM, 0, none⟩) n cM := hA.old' 7
   clear hA
   have hb := Below.refl w4.heap.size w4
   show Oper.wp _ _ _ _ _ _
   go_simp
  ·have e : a.tmps.getD 64 undef = .slice (some ⟨gM, 0, none⟩) n cM := hA.got' 3 64
   clear hA
   have hb := Below.refl w4.heap.size w4
   show Oper.wp _ _ _ _ _ _
   go_simp
  ·have e : a.tmps.getD 65 undef = .int .i64 (n : Int) := hA.got' 4 65
   clear hA
   have hsz := hs'.2.size
   have hsy := blk_lt HT3.out
   show Oper.wp _ _ _ _ _ _
   refine wp_makeZ (.tmp 65) (.tmp 65) rfl n k2 (by simpa [Act.eval] using e) (by simpa [Act.eval] using e) ?_
   intro g hg w5 ha hb
   exact ⟨_, rfl, ⟨g, by omega, rfl, ha⟩, hb⟩
  ·obtain ⟨g, h1, e, ha⟩ := hA.got' 2 63
   clear hA
   have hb := Below.refl w4.heap.size w4
   show Oper.wp _ _ _ _ _ _
   go_simp
   exact ⟨_, rfl, g, h1, rfl, ha⟩
  ·obtain ⟨g, h1, e, ha⟩ := hA.got' 5 66
   clear hA
   have hb := Below.refl w4.heap.size w4
   show Oper.wp _ _ _ _ _ _
   go_simp
   exact ⟨_, rfl, g, h1, rfl, ha⟩
 ·intro a w4 hs' hA
  obtain ⟨gA, la, e10, ha⟩ := hA.end' 6 10
  obtain ⟨gZ, lz, e11, hzz⟩ := hA.end' 7 11
  obtain ⟨x63, e63⟩ : ∃ x, a.tmps.getD 63 undef = x := ⟨_, rfl⟩
  obtain ⟨x66, e66⟩ : ∃ x, a.tmps.getD 66 undef = x := ⟨_, rfl⟩
  have e61 : a.tmps.getD 61 undef = .slice (some ⟨gM, 0, none⟩) n cM := hA.end' 0 61
  have e62 : a.tmps.getD 62 undef = .int .i64 (n : Int) := hA.end' 1 62
  have e64 : a.tmps.getD 64 undef = .slice (some ⟨gM, 0, none⟩) n cM := hA.end' 3 64
  have e65 : a.tmps.getD 65 undef = .int .i64 (n : Int) := hA.end' 4 65
  have hfr := hA.frame [(61, .slice (some ⟨gM, 0, none⟩) n cM), (62, .int .i64 (n : Int)), (63, x63), (64, .slice (some ⟨gM, 0, none⟩) n cM), (65, .int .i64 (n : Int)), (66, x66), (10, .slice (some ⟨gA, 0, none⟩) n n), (11, .slice (some ⟨gZ, 0, none⟩) n n)]
   (List.forall_mem_cons.2 ⟨e61, List.forall_mem_cons.2 ⟨e62, List.forall_mem_cons.2 ⟨e63, List.forall_mem_cons.2 ⟨e64, List.forall_mem_cons.2 ⟨e65, List.forall_mem_cons.2 ⟨e66, List.forall_mem_cons.2 ⟨e10, List.forall_mem_cons.2 ⟨e11, fun _ h => absurd h List.not_mem_nil⟩⟩⟩⟩⟩⟩⟩⟩) (by kernel_rfl)
  have hw4 := hs'.1
  have hm4 := HRW.out
  have hb4 := hs'.2
  clear hA hs' e10 e11 e61 e62 e63 e64 e65 e66
  subst hfr
  simp only [List.foldl_cons, List.foldl_nil]
  simp only [List.setIfInBounds_toArray, List.set_cons_zero, List.set_cons_succ]
  show Exit.then _ _ .normal _ w4
  have hU0 : LwU w w4 s ns gM gA gZ n 0 0 ms (fun _ => none) (fun _ => none) [] (.slice none 0 0) :=
   ⟨blk_below HT3.out hb4, la, lz, by obtain ⟨cur, a1, a2, _⟩ := ha; exact ⟨cur, a1, a2, fun i hi => by omega⟩, by obtain ⟨cur, a1, a2, _⟩ := hzz; exact ⟨cur, a1, a2, fun i hi => by omega⟩, by obtain ⟨cur, h1, h2⟩ := hm4; exact ⟨cur, blk_below h1 hb4, h2⟩, RowN.nil _ _ _ _ hw4⟩
  have HU0 := Lib.hid hU0
  clear hU0 ha hzz hw4 hm4 hb4 la lz HT3 HB3 HRW HT2 HB2 HT1 HB1 hB0 hT0 HWM
  go_wp2
  go_loopw [9, 69] (fun v9 v69 wr => ∃ (k : Nat) (css : List (List Value)) (x : Sts), v69 = .int .i64 (k : Int) ∧ k ≤ n ∧ css.length = k ∧ (∀ i, i < k → x i = firstM ms s i) ∧ (∀ i (h : i < css.length) (h2 : i < ms.length), PlainS ms[i] css[i].toArray) ∧ LwU w wr s ns gM gA gZ n k k ms x x css v9) (fun _ v69 _ => n - (intOf v69).toNat)
  case atStart => exact ⟨0, [], _, rfl, Nat.zero_le _, rfl, fun i hi => by omega, fun i hi => (by cases hi), HU0.out⟩
  case round =>
   obtain ⟨k, css, x, rfl, hk, hcl, hx, hcs, hU⟩ := hrel
   have HCL := Lib.hid hcl
   have HX := Lib.hid hx
   have HCS := Lib.hid hcs
   have HU := Lib.hid hU
   clear hcl hx hcs hU HU0
   by_cases hkn : k < n
   ·obtain ⟨hkl, hkm, hR, hutc, hsz5⟩ := HGD.out k hkn
    obtain ⟨A', c', e', hstr⟩ := HV.out.below HU.out.row.below
    obtain ⟨ad, rfl, hc⟩ := hstr k hkl
    cases e'
    obtain ⟨t, ht⟩ : ∃ t, l[k] = t := ⟨_, rfl⟩
    obtain ⟨m, hm⟩ : ∃ m, ms[k] = m := ⟨_, rfl⟩
    rw [ht] at hc hR hsz5
    rw [hm] at hR hutc
    have HPS := Lib.hid (fun w => parseStd_c t (by omega) m hR w)
    have HDL := Lib.hid (parse_delay hR)
    have HM := Lib.hid hm
    clear ht hm hR hutc hsz5 hstr
    go_upto_region 16 with (first | (go_at_call 17; refine (HPS.out _).mono ?_; clear HPS; rintro e w5 ⟨⟨cs, rfl, hcs5⟩, hb5⟩; obtain ⟨bb, dd, q0, q1, q2, q3, q4, q5, rfl⟩ := hcs5.shape; have HC5 := Lib.hid hcs5; have HU5 := Lib.hid (HU.out.goes hb5); clear hcs5 hb5))
    obtain ⟨r, hr⟩ : ∃ r, nextR m s = r := ⟨_, rfl⟩
    have HRR := Lib.hid hr
    have HB14 := Lib.hid (blk_new w5 (.cells #[.bool bb, .int .i64 dd, .int .u64 q0, .int .u64 q1, .int .u64 q2, .int .u64 q3, .int .u64 q4, .int .u64 q5] 59))
    have HI5 := Lib.hid (blk_alloc HU5.out.inst (.cells #[.bool bb, .int .i64 dd, .int .u64 q0, .int .u64 q1, .int .u64 q2, .int .u64 q3, .int .u64 q4, .int .u64 q5] 59))
    have HU6 := Lib.hid (HU5.out.goes (below_alloc (Below.refl _ _) (.cells #[.bool bb, .int .i64 dd, .int .u64 q0, .int .u64 q1, .int .u64 q2, .int .u64 q3, .int .u64 q4, .int .u64 q5] 59)))
    clear hr hc
    generalize w5.alloc (.cells #[.bool bb, .int .i64 dd, .int .u64 q0, .int .u64 q1, .int .u64 q2, .int .u64 q3, .int .u64 q4, .int .u64 q5] 59) = W5 at *
    refine wp_region_ghost (by kernel_rfl) 254 rfl 9 (BoxV #[.bool bb, .int .i64 dd, .int .u64 q0, .int .u64 q1, .int .u64 q2, .int .u64 q3, .int .u64 q4, .int .u64 q5] s ns r) (BoxS W5 r) none (by kernel_rfl) (by kernel_rfl) (by kernel_rfl) (by kernel_rfl) (by kernel_rfl) ⟨(Below.refl _ _).drew, fun b e => (by cases e), fun b e => (by cases e), fun b e => (by cases e), fun e => e.elim, fun e => e.elim⟩ ?_ ?_
    ·refine ⟨fun _ γ a w6 L hs' hA hnL hd hcl hO => ?_, fun _ γ a w6 L hs' hA hnL hd hcl hO => ?_, fun _ γ a w6 L hs' hA hnL hd hcl hO => ?_, fun _ γ a w6 L hs' hA hnL hd hcl hO => ?_, fun _ γ a w6 L hs' hA hnL hd hcl hO => ?_, fun _ γ a w6 L hs' hA hnL hd hcl hO => ?_, fun _ γ a w6 L hs' hA hnL hd hcl hO => ?_, fun _ γ a w6 L hs' hA hnL hd hcl hO => ?_, fun _ γ a w6 L hs' hA hnL hd hcl hO => ?_, fun h => absurd rfl h, trivial⟩
     ·have e14 : a.tmps.getD 14 undef = .pointer (some ⟨w5.heap.size, 0, none⟩) := hA.old' 14
      have hb := blk_below HB14.out hs'.below
      have l0 := blk_cell hb 0
      have l1 := blk_cell hb 1
      have l2 := blk_cell hb 2
      have l3 := blk_cell hb 3
      have l4 := blk_cell hb 4
      have l5 := blk_cell hb 5
      have l6 := blk_cell hb 6
      have l7 := blk_cell hb 7
      clear hA
      refine Region.StepG.pure (X := .agg #[.bool bb, .int .i64 dd, .int .u64 q0, .int .u64 q1, .int .u64 q2, .int .u64 q3, .int .u64 q4, .int .u64 q5]) rfl ?_ rfl (hs'.other (by decide) (by decide) (Below.refl _ _))
      go_simp
     ·have e4 : a.tmps.getD 4 undef = .pointer (some ⟨w.heap.size, 0, none⟩) := hA.old' 4
      have hb := blk_below HI5.out hs'.below
      have l0 := blk_cell hb 0
      have l1 := blk_cell hb 1
      clear hA
      refine Region.StepG.pure (X := .agg #[.int .i64 s, .int .i64 ns]) rfl ?_ rfl (hs'.other (by decide) (by decide) (Below.refl _ _))
      go_simp
     ·clear hA
      show Oper.wp _ _ _ _ _ _
      go_simp
      refine (cronUTC_c _).mono ?_
      rintro e w7 ⟨rfl, hb7⟩
      exact ⟨_, rfl, γ, rfl, hs'.other (by decide) (by decide) hb7, fun j t _ _ h => h⟩
     ·have e82 : a.tmps.getD 82 undef = .agg #[.bool bb, .int .i64 dd, .int .u64 q0, .int .u64 q1, .int .u64 q2, .int .u64 q3, .int .u64 q4, .int .u64 q5] := hA.gotL hd 0 82
      have e83 : a.tmps.getD 83 undef = .agg #[.int .i64 s, .int .i64 ns] := hA.gotL hd 1 83
      have e84 : a.tmps.getD 84 undef = zUTC := hA.gotL hd 2 84
      clear hA
      show Oper.wp _ _ _ _ _ _
      go_simp
      refine (next_t m HDL.out _ HC5.out s ns hs0 (by omega) hn0 hn1 _).mono ?_
      rintro e w7 ⟨⟨r', hr', rfl⟩, hb7⟩
      rw [HRR.out] at hr'
      subst hr'
      exact ⟨_, rfl, γ, rfl, hs'.other (by decide) (by decide) hb7, fun j t _ _ h => h⟩
     ·have e85 : a.tmps.getD 85 undef = .tuple #[.agg #[.int .i64 (r.getD 0), .int .i64 0], .bool r.isSome] := hA.gotL hd 3 85
      clear hA
      refine Region.StepG.pure (X := .tuple #[.agg #[.int .i64 (r.getD 0), .int .i64 0], .bool r.isSome]) rfl ?_ rfl (hs'.other (by decide) (by decide) (Below.refl _ _))
      go_simp
     ·have e81 : a.tmps.getD 81 undef = .tuple #[.agg #[.int .i64 (r.getD 0), .int .i64 0], .bool r.isSome] := hA.gotL hd 4 81
      clear hA
      refine Region.StepG.pure (X := .agg #[.int .i64 (r.getD 0), .int .i64 0]) rfl ?_ rfl (hs'.other (by decide) (by decide) (Below.refl _ _))
      go_simp
     ·have e81 : a.tmps.getD 81 undef = .tuple #[.agg #[.int .i64 (r.getD 0), .int .i64 0], .bool r.isSome] := hA.gotL hd 4 81
      clear hA
      refine Region.StepG.pure (X := .bool r.isSome) rfl ?_ rfl (hs'.other (by decide) (by decide) (Below.refl _ _))
      go_simp
     ·have hn8 : ¬ L 8 := fun h => hnL (hcl 8 h 7 (by decide))
      clear hA
      show Oper.wp _ _ _ _ _ _
      go_simp
      exact ⟨_, rfl, some w6.heap.size, ⟨_, rfl, rfl⟩, hs'.made hn8, fun j' t hj' _ h => BoxV.more (fun e => by subst e; exact hnL hj') h⟩
     ·obtain ⟨b, hγ, e16⟩ : ∃ b, γ = some b ∧ a.tmps.getD 16 undef = .pointer (some ⟨b, 0, none⟩) := hA.gotL hd 7 16
      have e86 : a.tmps.getD 86 undef = .agg #[.int .i64 (r.getD 0), .int .i64 0] := hA.gotL hd 5 86
      subst hγ
      have hbk := hs'.empty b rfl hnL
      have c0 := blk_cell hbk 0
      have c1 := blk_cell hbk 1
      have d0 := blk_frozen hbk 0
      have d1 := blk_frozen hbk 1
      clear hA
      show Oper.wp _ _ _ _ _ _
      go_simp
      exact ⟨undef, some b, trivial, hs'.put (hd 7 (by decide)) hnL, fun j' t _ _ h => BoxV.any h⟩
    ·intro γ a w8 L hs' hall hO hA
     obtain ⟨b, hγ, e16⟩ : ∃ b, γ = some b ∧ a.tmps.getD 16 undef = .pointer (some ⟨b, 0, none⟩) := hA.end' 7 16
     have hbk := hs'.full b hγ (hall 8 (by decide) (by decide))
     have hbel := hs'.below
     have hge := hs'.ge b hγ
     obtain ⟨x17, e17⟩ : ∃ x, a.tmps.getD 17 undef = x := ⟨_, rfl⟩
     have e82 : a.tmps.getD 82 undef = .agg #[.bool bb, .int .i64 dd, .int .u64 q0, .int .u64 q1, .int .u64 q2, .int .u64 q3, .int .u64 q4, .int .u64 q5] := hA.end' 0 82
     have e83 : a.tmps.getD 83 undef = .agg #[.int .i64 s, .int .i64 ns] := hA.end' 1 83
     have e84 : a.tmps.getD 84 undef = zUTC := hA.end' 2 84
     have e85 : a.tmps.getD 85 undef = .tuple #[.agg #[.int .i64 (r.getD 0), .int .i64 0], .bool r.isSome] := hA.end' 3 85
     have e81 : a.tmps.getD 81 undef = .tuple #[.agg #[.int .i64 (r.getD 0), .int .i64 0], .bool r.isSome] := hA.end' 4 81
     have e86 : a.tmps.getD 86 undef = .agg #[.int .i64 (r.getD 0), .int .i64 0] := hA.end' 5 86
     have e87 : a.tmps.getD 87 undef = .bool r.isSome := hA.end' 6 87
     have hfr := hA.frame [(82, .agg #[.bool bb, .int .i64 dd, .int .u64 q0, .int .u64 q1, .int .u64 q2, .int .u64 q3, .int .u64 q4, .int .u64 q5]), (83, .agg #[.int .i64 s, .int .i64 ns]), (84, zUTC), (85, .tuple #[.agg #[.int .i64 (r.getD 0), .int .i64 0], .bool r.isSome]), (81, .tuple #[.agg #[.int .i64 (r.getD 0), .int .i64 0], .bool r.isSome]), (86, .agg #[.int .i64 (r.getD 0), .int .i64 0]), (87, .bool r.isSome), (16, .pointer (some ⟨b, 0, none⟩)), (17, x17)] (List.forall_mem_cons.2 ⟨e82, List.forall_mem_cons.2 ⟨e83, List.forall_mem_cons.2 ⟨e84, List.forall_mem_cons.2 ⟨e85, List.forall_mem_cons.2 ⟨e81, List.forall_mem_cons.2 ⟨e86, List.forall_mem_cons.2 ⟨e87, List.forall_mem_cons.2 ⟨e16, List.forall_mem_cons.2 ⟨e17, fun _ h => absurd h List.not_mem_nil⟩⟩⟩⟩⟩⟩⟩⟩⟩) (by kernel_rfl)
     have HBK := Lib.hid hbk
     have HU8 := Lib.hid (HU6.out.goes hbel)
     have HB8 := Lib.hid (blk_below HB14.out hbel)
     have HGE := Lib.hid hge
     clear hs' hall hO hbk hbel hge hγ e82 e83 e84 e85 e81 e86 e87 e16 e17
     clear hA
     clear L γ
     subst hfr
     simp only [List.foldl_cons, List.foldl_nil]
     simp only [List.setIfInBounds_toArray, List.set_cons_zero, List.set_cons_succ]
     show Oper.wp _ _ _ _ _ _
     go_upto_region 17 with (fail)
     obtain ⟨A9, c9, e9⟩ := HU8.out.row.isSlice
     rw [HCL.out] at e9
     subst e9
     refine wp_region_ghostL (by kernel_rfl) 254 rfl 15 (RgV gA gZ n k w8 [.bool bb, .int .i64 dd, .int .u64 q0, .int .u64 q1, .int .u64 q2, .int .u64 q3, .int .u64 q4, .int .u64 q5] (.slice A9 k c9) r) (RgS w w8 s ns gM gA gZ n k w5.heap.size b ms x css [.bool bb, .int .i64 dd, .int .u64 q0, .int .u64 q1, .int .u64 q2, .int .u64 q3, .int .u64 q4, .int .u64 q5] (.slice A9 k c9) r) none (by kernel_rfl) (by kernel_rfl) (by kernel_rfl) (by kernel_rfl) (by kernel_rfl) ⟨(Below.refl w8.heap.size w8).drew.size, fun _ h => h, fun v e => (by cases e), fun _ _ => HU8.out.goes (Below.refl _ _).drew, fun h => h.elim, fun _ v e => (by cases e), fun h => h.elim, fun _ => blk_below HB8.out (Below.refl _ _).drew, fun _ => blk_below HBK.out (Below.refl _ _).drew⟩ ?_ ?_
     ·refine ⟨fun _ γ a w9 L hs' hA hnL hd hcl hO => ?_, fun _ γ a w9 L hs' hA hnL hd hcl hO => ?_, fun _ γ a w9 L hs' hA hnL hd hcl hO => ?_, fun _ γ a w9 L hs' hA hnL hd hcl hO => ?_, fun _ γ a w9 L hs' hA hnL hd hcl hO => ?_, fun _ γ a w9 L hs' hA hnL hd hcl hO => ?_, fun _ γ a w9 L hs' hA hnL hd hcl hO => ?_, fun _ γ a w9 L hs' hA hnL hd hcl hO => ?_, fun _ γ a w9 L hs' hA hnL hd hcl hO => ?_, fun _ γ a w9 L hs' hA hnL hd hcl hO => ?_, fun _ γ a w9 L hs' hA hnL hd hcl hO => ?_, fun _ γ a w9 L hs' hA hnL hd hcl hO => ?_, fun _ γ a w9 L hs' hA hnL hd hcl hO => ?_, fun _ γ a w9 L hs' hA hnL hd hcl hO => ?_, fun _ γ a w9 L hs' hA hnL hd hcl hO => ?_, fun h => absurd rfl h, trivial⟩
      ·have e : a.tmps.getD 10 undef = .slice (some ⟨gA, 0, none⟩) n n := hA.old' 10
       clear hA
       refine Region.StepG.pure (X := .slice (some ⟨gA, 0, none⟩) n n) rfl ?_ rfl (hs'.other (by decide) (by decide) (Below.refl _ _))
       go_simp
      ·have e : a.tmps.getD 12 undef = .int .i64 (k : Int) := hA.old' 12
       clear hA
       refine Region.StepG.pure (X := .int .i64 (k : Int)) rfl ?_ rfl (hs'.other (by decide) (by decide) (Below.refl _ _))
       go_simp
      ·have e : a.tmps.getD 11 undef = .slice (some ⟨gZ, 0, none⟩) n n := hA.old' 11
       clear hA
       refine Region.StepG.pure (X := .slice (some ⟨gZ, 0, none⟩) n n) rfl ?_ rfl (hs'.other (by decide) (by decide) (Below.refl _ _))
       go_simp
      ·have e : a.tmps.getD 12 undef = .int .i64 (k : Int) := hA.old' 12
       clear hA
       refine Region.StepG.pure (X := .int .i64 (k : Int)) rfl ?_ rfl (hs'.other (by decide) (by decide) (Below.refl _ _))
       go_simp
      ·have hn11 : ¬ L 11 := fun h => hnL (hcl 7 (hcl 11 h 7 (by decide)) 4 (by decide))
       have e : a.tmps.getD 9 undef = .slice A9 k c9 := hO 9 (fun j hj => Region.not_at (m := 11) (by kernel_rfl) j (fun e => hn11 (e ▸ hj)))
       clear hA
       refine Region.StepG.pure (X := .slice A9 k c9) rfl ?_ rfl (hs'.other (by decide) (by decide) (Below.refl _ _))
       go_simp
      ·have hn7 : ¬ L 7 := fun h => hnL (hcl 6 (hcl 7 h 6 (by decide)) 5 (by decide))
       have hγ : γ = none := by
        cases γ with
        | none => rfl
        | some v => exact absurd (hs'.s7 v rfl) hn7
       subst hγ
       have e14 : a.tmps.getD 14 undef = .pointer (some ⟨w5.heap.size, 0, none⟩) := hA.old' 14
       have hb := hs'.h14 rfl
       have l0 := blk_cell hb 0
       have l1 := blk_cell hb 1
       have l2 := blk_cell hb 2
       have l3 := blk_cell hb 3
       have l4 := blk_cell hb 4
       have l5 := blk_cell hb 5
       have l6 := blk_cell hb 6
       have l7 := blk_cell hb 7
       clear hA
       refine Region.StepG.pure (X := .agg #[.bool bb, .int .i64 dd, .int .u64 q0, .int .u64 q1, .int .u64 q2, .int .u64 q3, .int .u64 q4, .int .u64 q5]) rfl ?_ rfl (hs'.other (by decide) (by decide) (Below.refl _ _))
       go_simp
      ·have e93 : a.tmps.getD 93 undef = .agg #[.bool bb, .int .i64 dd, .int .u64 q0, .int .u64 q1, .int .u64 q2, .int .u64 q3, .int .u64 q4, .int .u64 q5] := hA.gotL hd 5 93
       clear hA
       show Oper.wp _ _ _ _ _ _
       refine wp_build1 elem59 (by decide) (.tmp 93) rfl [.bool bb, .int .i64 dd, .int .u64 q0, .int .u64 q1, .int .u64 q2, .int .u64 q3, .int .u64 q4, .int .u64 q5] (by simpa [Act.eval] using e93) rfl ?_
       have hb9 := below_alloc (Below.refl w9.heap.size w9) (.cells #[.bool bb, .int .i64 dd, .int .u64 q0, .int .u64 q1, .int .u64 q2, .int .u64 q3, .int .u64 q4, .int .u64 q5] 59)
       exact ⟨_, γ, rfl, fun _ => ⟨_, rfl, blk_new w9 _⟩, hs'.other (by decide) (by decide) hb9, fun j t _ _ h => RgV.keep (fun g h => blk_below h hb9) h⟩
      ·have hγ : γ = none := by
        cases γ with
        | none => rfl
        | some v => exact absurd (hs'.s7 v rfl) hnL
       subst hγ
       have e92 : a.tmps.getD 92 undef = .slice A9 k c9 := hA.gotL hd 4 92
       obtain ⟨g, e94, hg⟩ := (hA.gotL hd 6 94 : none = none → _) rfl
       have hrow : RowN w w9 59 8 (.slice A9 k c9) css := by
        by_cases h13 : L 13
        ·exact (hs'.u10 h13 rfl).row
        ·exact (hs'.u00 h13 rfl).row
       have hn11 : ¬ L 11 := fun h => hnL (hcl 11 h 7 (by decide))
       clear hA
       show Oper.wp _ _ _ _ _ _
       refine wp_rowN elem59 hrow (.tmp 92) (.tmp 94) rfl (by simpa [Act.eval] using e92) g 1 [.bool bb, .int .i64 dd, .int .u64 q0, .int .u64 q1, .int .u64 q2, .int .u64 q3, .int .u64 q4, .int .u64 q5] (by simpa [Act.eval] using e94) rfl (fun j h => by rw [blk_cell hg j]; simp) (by intro x hx; simp at hx; rcases hx with rfl | rfl | rfl | rfl | rfl | rfl | rfl | rfl <;> rfl) (by rw [HCL.out]; omega) ?_
       intro v' w10 hr10 hg10
       exact ⟨v', some v', rfl, rfl, hs'.app hr10 hg10, fun j t hj _ h => RgV.app (w := w9) (fun e => hnL (by subst e; exact hj)) (fun e => hn11 (by subst e; exact hj)) h⟩
      ·have hn13 : ¬ L 13 := fun h => hnL (hcl 13 h 8 (by decide))
       have e16 : a.tmps.getD 16 undef = .pointer (some ⟨b, 0, none⟩) := hA.old' 16
       have hb := hs'.hb hn13
       have l0 := blk_cell hb 0
       have l1 := blk_cell hb 1
       clear hA
       refine Region.StepG.pure (X := .agg #[.int .i64 (r.getD 0), .int .i64 0]) rfl ?_ rfl (hs'.other (by decide) (by decide) (Below.refl _ _))
       go_simp
      ·have e : a.tmps.getD 17 undef = .bool r.isSome := hA.old' 17
       clear hA
       refine Region.StepG.pure (X := .bool r.isSome) rfl ?_ rfl (hs'.other (by decide) (by decide) (Below.refl _ _))
       go_simp
      ·have e97 : a.tmps.getD 97 undef = .bool r.isSome := hA.gotL hd 9 97
       clear hA
       refine Region.StepG.pure (X := .bool (!r.isSome)) rfl ?_ rfl (hs'.other (by decide) (by decide) (Below.refl _ _))
       go_simp
      ·have h95 : γ = some (a.tmps.getD 95 undef) := hA.gotL hd 7 95
       obtain ⟨x95, e95⟩ : ∃ x, a.tmps.getD 95 undef = x := ⟨_, rfl⟩
       rw [e95] at h95
       clear hA
       refine Region.StepG.pure (X := x95) rfl ?_ h95 (hs'.other (by decide) (by decide) (Below.refl _ _))
       clear h95
       go_simp
      ·have e88 : a.tmps.getD 88 undef = .slice (some ⟨gA, 0, none⟩) n n := hA.gotL hd 0 88
       have e89 : a.tmps.getD 89 undef = .int .i64 (k : Int) := hA.gotL hd 1 89
       clear hA
       refine Region.StepG.pure (X := .pointer (some ⟨gA, k * 2, none⟩)) rfl ?_ rfl (hs'.other (by decide) (by decide) (Below.refl _ _))
       go_simp
      ·have e99 : a.tmps.getD 99 undef = .pointer (some ⟨gA, k * 2, none⟩) := hA.gotL hd 12 99
       have e96 : a.tmps.getD 96 undef = .agg #[.int .i64 (r.getD 0), .int .i64 0] := hA.gotL hd 8 96
       have h0 : ABlk w9 gA n k (secM x) := by
        cases γ with
        | none => exact (hs'.u00 hnL rfl).a
        | some v => exact (hs'.u01 hnL v rfl).a
       have ht := h0.there k hkn
       obtain ⟨v0, ca0⟩ := Option.isSome_iff_exists.1 (ht 0 (by decide)).1
       obtain ⟨v1, ca1⟩ := Option.isSome_iff_exists.1 (ht 1 (by decide)).1
       have da0 := (ht 0 (by decide)).2
       have da1 := (ht 1 (by decide)).2
       rw [Nat.add_zero] at ca0 da0
       clear hA ht
       obtain ⟨cb, hcb, -⟩ := h0
       show Oper.wp _ _ _ _ _ _
       go_simp
       exact ⟨undef, γ, trivial, hs'.putA hkn hnL, fun j' t _ _ h => RgV.keep (fun g h => blk59_far h hcb _ _ _ _) h⟩
      ·have e90 : a.tmps.getD 90 undef = .slice (some ⟨gZ, 0, none⟩) n n := hA.gotL hd 2 90
       have e91 : a.tmps.getD 91 undef = .int .i64 (k : Int) := hA.gotL hd 3 91
       clear hA
       refine Region.StepG.pure (X := .pointer (some ⟨gZ, k, none⟩)) rfl ?_ rfl (hs'.other (by decide) (by decide) (Below.refl _ _))
       go_simp
     ·intro γ a w9 L hs' hall hO hA
      have h9 : γ = some (a.tmps.getD 9 undef) := hA.end' 11 9
      obtain ⟨v9', e9⟩ : ∃ x, a.tmps.getD 9 undef = x := ⟨_, rfl⟩
      rw [e9] at h9
      have hU9 := hs'.u11 (hall 13 (by decide) (by decide)) v9' h9
      obtain ⟨x94, e94⟩ : ∃ x, a.tmps.getD 94 undef = x := ⟨_, rfl⟩
      obtain ⟨x95, e95⟩ : ∃ x, a.tmps.getD 95 undef = x := ⟨_, rfl⟩
      have e88 : a.tmps.getD 88 undef = .slice (some ⟨gA, 0, none⟩) n n := hA.end' 0 88
      have e89 : a.tmps.getD 89 undef = .int .i64 (k : Int) := hA.end' 1 89
      have e90 : a.tmps.getD 90 undef = .slice (some ⟨gZ, 0, none⟩) n n := hA.end' 2 90
      have e91 : a.tmps.getD 91 undef = .int .i64 (k : Int) := hA.end' 3 91
      have e92 : a.tmps.getD 92 undef = .slice A9 k c9 := hA.end' 4 92
      have e93 : a.tmps.getD 93 undef = .agg #[.bool bb, .int .i64 dd, .int .u64 q0, .int .u64 q1, .int .u64 q2, .int .u64 q3, .int .u64 q4, .int .u64 q5] := hA.end' 5 93
      have e96 : a.tmps.getD 96 undef = .agg #[.int .i64 (r.getD 0), .int .i64 0] := hA.end' 8 96
      have e97 : a.tmps.getD 97 undef = .bool r.isSome := hA.end' 9 97
      have e98 : a.tmps.getD 98 undef = .bool (!r.isSome) := hA.end' 10 98
      have e99 : a.tmps.getD 99 undef = .pointer (some ⟨gA, k * 2, none⟩) := hA.end' 12 99
      have e100 : a.tmps.getD 100 undef = .pointer (some ⟨gZ, k, none⟩) := hA.end' 14 100
      have hfr := hA.frame [(88, .slice (some ⟨gA, 0, none⟩) n n), (89, .int .i64 (k : Int)), (90, .slice (some ⟨gZ, 0, none⟩) n n), (91, .int .i64 (k : Int)), (92, .slice A9 k c9), (93, .agg #[.bool bb, .int .i64 dd, .int .u64 q0, .int .u64 q1, .int .u64 q2, .int .u64 q3, .int .u64 q4, .int .u64 q5]), (94, x94), (95, x95), (96, .agg #[.int .i64 (r.getD 0), .int .i64 0]), (97, .bool r.isSome), (98, .bool (!r.isSome)), (99, .pointer (some ⟨gA, k * 2, none⟩)), (100, .pointer (some ⟨gZ, k, none⟩)), (9, v9')] (List.forall_mem_cons.2 ⟨e88, List.forall_mem_cons.2 ⟨e89, List.forall_mem_cons.2 ⟨e90, List.forall_mem_cons.2 ⟨e91, List.forall_mem_cons.2 ⟨e92, List.forall_mem_cons.2 ⟨e93, List.forall_mem_cons.2 ⟨e94, List.forall_mem_cons.2 ⟨e95, List.forall_mem_cons.2 ⟨e96, List.forall_mem_cons.2 ⟨e97, List.forall_mem_cons.2 ⟨e98, List.forall_mem_cons.2 ⟨e99, List.forall_mem_cons.2 ⟨e100, List.forall_mem_cons.2 ⟨e9, fun _ h => absurd h List.not_mem_nil⟩⟩⟩⟩⟩⟩⟩⟩⟩⟩⟩⟩⟩⟩) (by kernel_rfl)
      have HU9 := Lib.hid hU9
      obtain ⟨⟨vz, cz⟩, dz⟩ := hU9.z.there k hkn
      clear hs' hall hO h9 hU9 e88 e89 e90 e91 e92 e93 e94 e95 e96 e97 e98 e99 e100 e9
      clear hA
      clear L γ
      subst hfr
      simp only [List.foldl_cons, List.foldl_nil]
      simp only [List.setIfInBounds_toArray, List.set_cons_zero, List.set_cons_succ]
      show Oper.wp _ _ _ _ _ _
      have hz9 := HU9.out.putZ (kZ' := k + 1) k hkn (fun j hj => by omega) r
      rw [show (!r.isSome) = r.isNone by cases r <;> rfl] at hz9
      go_wp2
      exact ⟨⟨k + 1, css ++ [[.bool bb, .int .i64 dd, .int .u64 q0, .int .u64 q1, .int .u64 q2, .int .u64 q3, .int .u64 q4, .int .u64 q5]], upd x k r, rfl, hkn, by rw [List.length_append, HCL.out]; rfl, fun i hi => by
       unfold upd
       by_cases e : i = k
       ·subst e; rw [if_pos rfl]; unfold firstM nxtM; rw [List.getD_eq_getElem?_getD, List.getElem?_eq_getElem hkm, Option.getD_some, HM.out]; exact HRR.out.symm
       ·rw [if_neg e]; exact HX.out i (by omega), fun i h h2 => by
       by_cases e : i = k
       ·subst e
        have h1 : (css ++ [[.bool bb, .int .i64 dd, .int .u64 q0, .int .u64 q1, .int .u64 q2, .int .u64 q3, .int .u64 q4, .int .u64 q5]])[i] = [.bool bb, .int .i64 dd, .int .u64 q0, .int .u64 q1, .int .u64 q2, .int .u64 q3, .int .u64 q4, .int .u64 q5] := by rw [List.getElem_append_right (by rw [HCL.out]; exact Nat.le_refl _)]; simp [HCL.out]
        rw [h1, HM.out]; exact HC5.out
       ·rw [List.length_append, HCL.out, List.length_singleton] at h
        have h1 : (css ++ [[.bool bb, .int .i64 dd, .int .u64 q0, .int .u64 q1, .int .u64 q2, .int .u64 q3, .int .u64 q4, .int .u64 q5]])[i]'(by rw [List.length_append, HCL.out, List.length_singleton]; exact h) = css[i]'(by rw [HCL.out]; omega) := List.getElem_append_left (by rw [HCL.out]; omega)
        rw [h1]; exact HCS.out i _ h2, hz9⟩, by simp [intOf]; omega⟩
   ·obtain rfl : k = n := by omega
    obtain ⟨M, rfl⟩ : ∃ M : Nat, N = (M : Int) := ⟨N.toNat, by omega⟩
    have hdel : ∀ m ∈ ms, DelOk m := fun m hm => by
     obtain ⟨i, hi, rfl⟩ := List.getElem_of_mem hm
     obtain ⟨_, _, hR, _⟩ := HGD.out i (by rw [HML.out] at hi; exact hi)
     exact parse_delay hR
    have HDE := Lib.hid hdel
    have HMG := Lib.hid (merge_c gM cM ms (by rw [HML.out]; exact k1) (by rw [HML.out]; exact k2) hdel s ns hs0 hs1 M (by omega))
    rw [HML.out] at HMG
    obtain ⟨E, hE⟩ : ∃ E, mergeL (nxtM ms) k M (firstM ms s) = E := ⟨_, rfl⟩
    rw [hE] at HMG
    have HE := Lib.hid hE
    clear hE hdel
    have l0 := blk_cell HU.out.inst 0
    have l1 := blk_cell HU.out.inst 1
    go_upto_region 20 with (first | (go_at_call 19; refine (HMG.out _ (by obtain ⟨cur, h, _⟩ := HU.out.m; exact blk_lt h) HU.out.m.rows).mono ?_; clear HMG; rintro e w2 ⟨vE, rfl, hrE⟩; have HRE := Lib.hid hrE; have HU2 := Lib.hid (HU.out.goes hrE.below); clear hrE))
    obtain ⟨A, cE, rfl, hEB⟩ := HRE.out.evs
    have hne : css ≠ [] := fun h => by have := HCL.out; rw [h] at this; simp at this; omega
    have HNE := Lib.hid hne
    obtain ⟨g9, c9, e9, -, -⟩ := HU2.out.row.cells hne
    rw [HCL.out] at e9
    subst e9
    have HX2 := Lib.hid (LwX.mk HU2.out hEB)
    have hbd : ∀ i, i < k → ∀ v, x i = some v → s + 1 ≤ v ∧ v ≤ s + 4611686019 := fun i hi v hv => by rw [HX.out i hi] at hv; exact nxtM_bound HDE.out hv
    have hrun : Mrg.Run (nxtM ms) k M E 0 s (firstM ms s) x := by
     rw [← HE.out]
     exact Mrg.Run.start (fun i hi => (HX.out i hi).symm) fun i hi v hv => by have := nxtM_bound HDE.out hv; omega
    have HRUN := Lib.hid hrun
    have HBD := Lib.hid (show ∀ i, i < k → ∀ v, x i = some v → -62135596800 < v ∧ v ≤ 300000000000 from fun i hi v hv => by have := hbd i hi v hv; omega)
    have hlE : E.length ≤ 30 := by rw [← HE.out]; exact Nat.le_trans (Mrg.mergeL_len _ _ _ _) (by omega)
    have HLA := Lib.hid (later_nxtM HDE.out)
    clear hEB hne hbd hrun HRE HU2 HU HX HE HDE l0 l1
    go_wp2
    go_loopw [108] (fun v108 wr2 => ∃ (q : Nat) (T : Int) (X y : Sts), v108 = .int .i64 (q : Int) ∧ Mrg.Run (nxtM ms) k M E q T X y ∧ (∀ i, i < k → ∀ v, y i = some v → -62135596800 < v ∧ v ≤ 300000000000) ∧ LwX w wr2 s ns gM gA gZ k ms y css (.slice (some ⟨g9, 0, none⟩) k c9) A E) (fun v108 _ => E.length - (intOf v108).toNat)
    case atStart => exact ⟨0, s, _, _, rfl, HRUN.out, HBD.out, HX2.out⟩
    case round =>
     clear HRUN HBD HX2
     obtain ⟨q, T, X, y, rfl, hrun, hbd, hX⟩ := hrel
     have hqle := hrun.le
     have HRUN := Lib.hid hrun
     have HBD := Lib.hid hbd
     have HX := Lib.hid hX
     clear hrun hbd hX
     by_cases hq : q < E.length
     ·obtain ⟨i, T', hEq, hTT, hex, hmin, hnext⟩ := HRUN.out.next HLA.out hq
      obtain ⟨gE, rfl, d0, d1, d2⟩ := HX.out.e.at q hq
      rw [hEq] at d0 d1
      have HEQ := Lib.hid hEq
      have HTT := Lib.hid hTT
      have HEX := Lib.hid hex
      have HMIN := Lib.hid hmin
      have HNX := Lib.hid hnext
      clear hEq hTT hex hmin hnext
      dsimp only at d0 d1
      obtain ⟨gr, hgr, hgc⟩ := good_c T' 0
      have HGR := Lib.hid hgr
      have HGC := Lib.hid hgc
      clear hgr hgc
      go_upto_region 23 with (fail)
      have HX6 := Lib.hid (HX.out.goes (below_alloc (Below.refl wr.heap.size wr) (.cells #[.int .i64 (i : Int), .int .i64 T', .int .i64 0] 66)))
      have hT6 := blk_new wr (.cells #[.int .i64 (i : Int), .int .i64 T', .int .i64 0] 66)
      obtain ⟨gT, hgT⟩ : ∃ g, wr.heap.size = g := ⟨_, rfl⟩
      rw [hgT] at hT6 ⊢
      have HT6 := Lib.hid hT6
      have t0 := blk_cell hT6 0
      have t1 := blk_cell hT6 1
      have t2 := blk_cell hT6 2
      clear hT6 hgT d0 d1 d2
      generalize wr.alloc (.cells #[.int .i64 (i : Int), .int .i64 T', .int .i64 0] 66) = W6 at *
      go_upto_if 116 with (first | (go_at_call 7; refine (HGC.out _).mono ?_; clear HGC; rintro e w7 ⟨rfl, hb7⟩; have HX7 := Lib.hid (HX6.out.goes hb7); have HT7 := Lib.hid (blk_below HT6.out hb7); clear hb7))
      cases gr with
      | false =>
       go_wp2
       go_ret
       exact ⟨rfl, HX7.out.u.row.below⟩
      | true =>
      obtain ⟨gs0, gs1, -, -⟩ := HGR.out rfl
      clear HGR HX6 HT6 t0 t1 t2
      have HEN := Lib.hid (entries_c gA k gZ k k (nxOf y) k1 k2 (nxOf_ok HBD.out) w7 HX7.out.u.nx HX7.out.u.zr)
      go_upto_region 26 with (first | (go_at_call 20; refine HEN.out.mono ?_; clear HEN; rintro e w8 ⟨⟨A2, c2, f, hf, rfl, hO, hless⟩, hb8⟩; have HX8 := Lib.hid (HX7.out.goes hb8); have HT8 := Lib.hid (blk_below HT7.out hb8); have HO8 := Lib.hid hO; have HLS := Lib.hid hless; clear hb8 hO hless))
      have hyf : y f = some T' := first_least HBD.out hf HLS.out HEX.out HMIN.out
      have hsm : someM y f = true := by unfold someM; rw [hyf]; rfl
      have hsc : secM y f = T' := by unfold secM; rw [hyf]; rfl
      have HYF := Lib.hid hyf
      have HSM := Lib.hid hsm
      have HSC := Lib.hid hsc
      clear hyf hsm hsc HX7 HT7 HLS HEX HMIN
      refine wp_region_det (F := ?FL) (by kernel_rfl) 254 rfl 38 [(120, .slice (some ⟨A2, 0, none⟩) k c2), (121, .int .i64 (k : Int)), (122, .slice (some ⟨gM, 0, none⟩) k cM), (123, .int .i64 (k : Int)), (124, .bool false), (125, .bool false), (126, .slice (some ⟨A2, 0, none⟩) k c2), (127, .pointer (some ⟨A2, 0, none⟩)), (128, .int .i64 (f : Int)), (129, .bool false), (130, .bool false), (131, .bool false), (132, .slice (some ⟨A2, 0, none⟩) k c2), (133, .pointer (some ⟨A2, 0, none⟩)), (134, .int .i64 (f : Int)), (135, .slice (some ⟨gM, 0, none⟩) k cM), (136, .int .i64 (k : Int)), (137, .bool false), (138, .bool false), (139, .bool false), (140, .slice (some ⟨gZ, 0, none⟩) k k), (141, .slice (some ⟨A2, 0, none⟩) k c2), (142, .pointer (some ⟨A2, 0, none⟩)), (143, .int .i64 (f : Int)), (144, .pointer (some ⟨gZ, f, none⟩)), (145, .bool false), (146, .bool false), (147, .bool false), (148, .slice (some ⟨gA, 0, none⟩) k k), (149, .slice (some ⟨A2, 0, none⟩) k c2), (150, .pointer (some ⟨A2, 0, none⟩)), (151, .int .i64 (f : Int)), (152, .pointer (some ⟨gA, f * 2, none⟩)), (153, .agg #[.int .i64 T', .int .i64 0]), (154, .pointer (some ⟨gT, 1, none⟩)), (155, .agg #[.int .i64 T', .int .i64 0]), (156, .bool false), (157, .bool false)] ?hFL (by kernel_rfl) (fun w' => Below w8.heap.size w8 w') (fun _ _ h hb => below_step h hb) ((Below.refl _ _).drew) ?_ ?_
      case hFL =>
       simp only [List.foldl_cons, List.foldl_nil, List.setIfInBounds_toArray, List.set_cons_zero, List.set_cons_succ]
       rfl
      ·and_intros
       all_goals first | exact trivial | intro _ w9 h9
       all_goals
        obtain ⟨y0, y1⟩ := (HX8.out.goes h9).u.a.at f hf
        have z0 := (HX8.out.goes h9).u.z.at f hf
        rw [HSC.out] at y0
        rw [HSM.out] at z0
        have o0 := pw_cell_below h9 HO8.out
        have t1 := blk_cell (blk_below HT8.out h9) 1
        have t2 := blk_cell (blk_below HT8.out h9) 2
        have hb := Below.refl w9.heap.size w9
        clear h9
        first
        | (change Oper.wp _ _ _ _ _ _; go_simp)
        | (change (_ = _ → Oper.wp _ _ _ _ _ _) ∧ _; refine ⟨fun _ => ?_, fun h => absurd rfl h⟩; go_simp)
      ·intro w9 h9
       show Exit.then _ _ .normal _ w9
       have HX9 := Lib.hid (HX8.out.goes h9)
       have HT9 := Lib.hid (blk_below HT8.out h9)
       have HO9 := Lib.hid (pw_cell_below h9 HO8.out)
       clear h9 HX8 HT8 HO8
       have o0 := HO9.out
       go_wp2
       go_loopw [23, 163] (fun v23 v163 wr3 => ∃ (j : Nat) (m : Bool), v23 = .bool m ∧ v163 = .int .i64 (j : Int) ∧ j ≤ E.length ∧ (∀ p (hp : p < E.length), p < j → (E[p] = (f, T') ∨ ((E[p]).2 = T' ∧ p = E.length - 1 ∧ E.length = M)) → m = true) ∧ Below w9.heap.size w9 wr3) (fun _ v163 _ => E.length - (intOf v163).toNat)
       case atStart => exact ⟨0, false, rfl, rfl, Nat.zero_le _, fun p hp h => by omega, Below.refl _ _⟩
       case round =>
        clear o0
        obtain ⟨j, m, rfl, rfl, hj, hm, hb⟩ := hrel
        have HBJ := Lib.hid hb
        have HMJ := Lib.hid hm
        have HXJ := Lib.hid (HX9.out.goes hb)
        have HTJ := Lib.hid (blk_below HT9.out hb)
        clear hm hb
        by_cases hjE : j < E.length
        ·obtain ⟨gE', eA, d0, d1, d2⟩ := HXJ.out.e.at j hjE
         cases eA
         obtain ⟨⟨fi, Ti⟩, hEj⟩ : ∃ e, E[j] = e := ⟨_, rfl⟩
         rw [hEj] at d0 d1
         have HEJ := Lib.hid hEj
         clear hEj
         dsimp only at d0 d1
         go_upto_region 33 with (fail)
         have HBK := Lib.hid (below_step HBJ.out (below_alloc (Below.refl _ _) (.cells #[.int .i64 (fi : Int), .int .i64 Ti, .int .i64 0] 66)))
         have hT6 := blk_new wr (.cells #[.int .i64 (fi : Int), .int .i64 Ti, .int .i64 0] 66)
         have HTK := Lib.hid (blk_alloc HTJ.out (.cells #[.int .i64 (fi : Int), .int .i64 Ti, .int .i64 0] 66))
         obtain ⟨gI, hgI⟩ : ∃ g, wr.heap.size = g := ⟨_, rfl⟩
         rw [hgI] at hT6 ⊢
         have t0 := blk_cell hT6 0
         have t1 := blk_cell hT6 1
         have t2 := blk_cell hT6 2
         have u1 := blk_cell HTK.out 1
         have u2 := blk_cell HTK.out 2
         clear hT6 hgI d0 d1 d2
         generalize wr.alloc (.cells #[.int .i64 (fi : Int), .int .i64 Ti, .int .i64 0] 66) = W6 at *
         obtain ⟨v1, hv1⟩ : ∃ b, (Ti == T') = b := ⟨_, rfl⟩
         obtain ⟨v2, hv2⟩ : ∃ b, ((fi : Int) == (f : Int)) = b := ⟨_, rfl⟩
         obtain ⟨v3, hv3⟩ : ∃ b, ((j : Int) == (E.length : Int) - 1) = b := ⟨_, rfl⟩
         obtain ⟨v4, hv4⟩ : ∃ b, ((E.length : Int) == (M : Int)) = b := ⟨_, rfl⟩
         have hm1 : ∀ p (hp : p < E.length), p < j + 1 → (E[p] = (f, T') ∨ ((E[p]).2 = T' ∧ p = E.length - 1 ∧ E.length = M)) → (m || (v1 && v2) || (v1 && (v3 && v4))) = true := fun p hp hlt hc => by
          by_cases e : p = j
          ·subst e
           rw [HEJ.out] at hc
           rcases hc with hc | ⟨hc1, hc2, hc3⟩
           ·injection hc with e1 e2
            have g1 : v1 = true := by rw [← hv1, e2]; simp
            have g2 : v2 = true := by rw [← hv2, e1]; simp
            rw [g1, g2]; simp
           ·have g1 : v1 = true := by rw [← hv1]; simpa using hc1
            have g3 : v3 = true := by rw [← hv3]; simp; omega
            have g4 : v4 = true := by rw [← hv4, hc3]; simp
            rw [g1, g3, g4]; simp
          ·have g0 := HMJ.out p hp (by omega) hc
           rw [g0]; simp
         have HM1 := Lib.hid hm1
         clear hm1
         cases v1
         ·cases m
          all_goals
           go_wp2
           exact ⟨⟨j + 1, _, rfl, rfl, hjE, HM1.out, HBK.out⟩, by simp [intOf]; omega⟩
         ·cases m
          ·cases v2
           all_goals
            cases v3
            ·go_wp2
             exact ⟨⟨j + 1, _, rfl, rfl, hjE, HM1.out, HBK.out⟩, by simp [intOf]; omega⟩
            ·cases v4
             all_goals
              go_wp2
              exact ⟨⟨j + 1, _, rfl, rfl, hjE, HM1.out, HBK.out⟩, by simp [intOf]; omega⟩
          ·cases v3
           ·go_wp2
            exact ⟨⟨j + 1, _, rfl, rfl, hjE, HM1.out, HBK.out⟩, by simp [intOf]; omega⟩
           ·cases v4
            all_goals
             go_wp2
             exact ⟨⟨j + 1, _, rfl, rfl, hjE, HM1.out, HBK.out⟩, by simp [intOf]; omega⟩
        ·obtain rfl : j = E.length := by omega
         have hyf := HYF.out
         obtain ⟨hmet, X', hrun'⟩ := HNX.out f hf hyf
         have hmt : m = true := by
          rcases hmet with ⟨p, hp, hpe⟩ | ⟨h1, h2⟩
          ·exact HMJ.out p hp hp (.inl hpe)
          ·exact HMJ.out (E.length - 1) (by omega) (by omega) (.inr ⟨h2 (by omega), rfl, h1⟩)
         subst hmt
         have HRN := Lib.hid hrun'
         clear hmet hrun' hyf HNX HMJ
         generalize wr = wj at *
         go_upto_region 37 with (fail)
         cases q with
         | zero =>
          refine wp_region_det (F := ?FM) (by kernel_rfl) 254 rfl 17 [(201, .bool true), (202, .bool false), (203, .bool false), (204, .int .i64 ((0 : Nat) : Int)), (205, .bool false), (206, .bool false), (207, undef), (208, undef), (209, undef), (210, undef), (211, undef), (212, undef), (213, undef), (214, undef), (215, undef), (216, .bool false), (217, .bool false)] ?hFM (by kernel_rfl) (fun w' => Below wj.heap.size wj w') (fun _ _ h hb => below_step h hb) ((Below.refl _ _).drew) ?_ ?_
          case hFM =>
           simp only [List.foldl_cons, List.foldl_nil, List.setIfInBounds_toArray, List.set_cons_zero, List.set_cons_succ]
           rfl
          ·and_intros
           all_goals first | exact trivial | intro _ w9 h9
           all_goals
            have t1 := blk_cell (blk_below HTJ.out h9) 1
            have t2 := blk_cell (blk_below HTJ.out h9) 2
            have hb := Below.refl w9.heap.size w9
            clear h9
            first
            | (change Oper.wp _ _ _ _ _ _; go_simp)
            | rfl
            | (change (_ = _ → Oper.wp _ _ _ _ _ _) ∧ _; first | (refine ⟨fun h => absurd h (by decide), fun _ => rfl⟩) | (refine ⟨fun _ => ?_, fun h => absurd rfl h⟩; go_simp))
          ·intro w9 h9
           show Exit.then _ _ .normal _ w9
           have HXC := Lib.hid (HXJ.out.goes h9)
           clear h9 HTJ HXJ HBJ HTT HRUN
           obtain ⟨mm, hmm⟩ : ∃ m, ms[f]'(by rw [HML.out]; exact hf) = m := ⟨_, rfl⟩
           have hdm : DelOk mm := by obtain ⟨_, _, hR, _⟩ := HGD.out f hf; rw [hmm] at hR; exact parse_delay hR
           have hcf := HCS.out f (by rw [HCL.out]; exact hf) (by rw [HML.out]; exact hf)
           rw [hmm] at hcf
           obtain ⟨bb, dd, q0, q1, q2, q3, q4, q5, hsh⟩ := hcf.shape
           have hcs : css[f]'(by rw [HCL.out]; exact hf) = [.bool bb, .int .i64 dd, .int .u64 q0, .int .u64 q1, .int .u64 q2, .int .u64 q3, .int .u64 q4, .int .u64 q5] := by have := congrArg Array.toList hsh; simpa using this
           rw [hsh] at hcf
           obtain ⟨r, hr⟩ : ∃ r, nextR mm T' = r := ⟨_, rfl⟩
           have hnx : nxtM ms f T' = r := by unfold nxtM; rw [List.getD_eq_getElem?_getD, List.getElem?_eq_getElem (show f < ms.length by rw [HML.out]; exact hf), Option.getD_some, hmm]; exact hr
           have HDM := Lib.hid hdm
           have HCF := Lib.hid hcf
           have HSH := Lib.hid hcs
           have HRR := Lib.hid hr
           have HNR := Lib.hid hnx
           have hfl : f < css.length := by rw [HCL.out]; exact hf
           clear hmm hdm hcf hsh hcs hr hnx
           go_upto_region 39 with (fail)
           refine wp_region_ghost (by kernel_rfl) 254 rfl 15 (BoxW g9 gA k f c9 #[.bool bb, .int .i64 dd, .int .u64 q0, .int .u64 q1, .int .u64 q2, .int .u64 q3, .int .u64 q4, .int .u64 q5] T' r) (BoxT w9 r) none (by kernel_rfl) (by kernel_rfl) (by kernel_rfl) (by kernel_rfl) (by kernel_rfl) ⟨(Below.refl _ _).drew, fun b e => (by cases e), fun b e => (by cases e), fun b e => (by cases e), fun e => e.elim, fun e => e.elim⟩ ?_ ?_
           ·refine ⟨fun _ γ a w6 L hs' hA hnL hd hcl hO => ?_, fun _ γ a w6 L hs' hA hnL hd hcl hO => ?_, fun _ γ a w6 L hs' hA hnL hd hcl hO => ?_, fun _ γ a w6 L hs' hA hnL hd hcl hO => ?_, fun _ γ a w6 L hs' hA hnL hd hcl hO => ?_, fun _ γ a w6 L hs' hA hnL hd hcl hO => ?_, fun _ γ a w6 L hs' hA hnL hd hcl hO => ?_, fun _ γ a w6 L hs' hA hnL hd hcl hO => ?_, fun _ γ a w6 L hs' hA hnL hd hcl hO => ?_, fun _ γ a w6 L hs' hA hnL hd hcl hO => ?_, fun _ γ a w6 L hs' hA hnL hd hcl hO => ?_, fun _ γ a w6 L hs' hA hnL hd hcl hO => ?_, fun _ γ a w6 L hs' hA hnL hd hcl hO => ?_, fun _ γ a w6 L hs' hA hnL hd hcl hO => ?_, fun _ γ a w6 L hs' hA hnL hd hcl hO => ?_, fun h => absurd rfl h, trivial⟩
            ·have e : a.tmps.getD 9 undef = .slice (some ⟨g9, 0, none⟩) k c9 := hA.old' 9
             clear hA
             refine Region.StepG.pure (X := .slice (some ⟨g9, 0, none⟩) k c9) rfl ?_ rfl (hs'.other (by decide) (by decide) (Below.refl _ _))
             go_simp
            ·have e : a.tmps.getD 22 undef = .int .i64 (f : Int) := hA.old' 22
             clear hA
             refine Region.StepG.pure (X := .int .i64 (f : Int)) rfl ?_ rfl (hs'.other (by decide) (by decide) (Below.refl _ _))
             go_simp
            ·have e219 : a.tmps.getD 219 undef = .slice (some ⟨g9, 0, none⟩) k c9 := hA.gotL hd 0 219
             have e220 : a.tmps.getD 220 undef = .int .i64 (f : Int) := hA.gotL hd 1 220
             clear hA
             refine Region.StepG.pure (X := .pointer (some ⟨g9, f * 8, none⟩)) rfl ?_ rfl (hs'.other (by decide) (by decide) (Below.refl _ _))
             go_simp
            ·have e221 : a.tmps.getD 221 undef = .pointer (some ⟨g9, f * 8, none⟩) := hA.gotL hd 2 221
             obtain ⟨l0, l1, l2, l3, l4, l5, l6, l7⟩ := (HXC.out.goes hs'.below).u.sched f hfl HSH.out
             clear hA
             refine Region.StepG.pure (X := .agg #[.bool bb, .int .i64 dd, .int .u64 q0, .int .u64 q1, .int .u64 q2, .int .u64 q3, .int .u64 q4, .int .u64 q5]) rfl ?_ rfl (hs'.other (by decide) (by decide) (Below.refl _ _))
             go_simp
            ·have e : a.tmps.getD 10 undef = .slice (some ⟨gA, 0, none⟩) k k := hA.old' 10
             clear hA
             refine Region.StepG.pure (X := .slice (some ⟨gA, 0, none⟩) k k) rfl ?_ rfl (hs'.other (by decide) (by decide) (Below.refl _ _))
             go_simp
            ·have e : a.tmps.getD 22 undef = .int .i64 (f : Int) := hA.old' 22
             clear hA
             refine Region.StepG.pure (X := .int .i64 (f : Int)) rfl ?_ rfl (hs'.other (by decide) (by decide) (Below.refl _ _))
             go_simp
            ·have e223 : a.tmps.getD 223 undef = .slice (some ⟨gA, 0, none⟩) k k := hA.gotL hd 4 223
             have e224 : a.tmps.getD 224 undef = .int .i64 (f : Int) := hA.gotL hd 5 224
             clear hA
             refine Region.StepG.pure (X := .pointer (some ⟨gA, f * 2, none⟩)) rfl ?_ rfl (hs'.other (by decide) (by decide) (Below.refl _ _))
             go_simp
            ·have e225 : a.tmps.getD 225 undef = .pointer (some ⟨gA, f * 2, none⟩) := hA.gotL hd 6 225
             obtain ⟨y0, y1⟩ := (HXC.out.goes hs'.below).u.a.at f hf
             rw [HSC.out] at y0
             clear hA
             refine Region.StepG.pure (X := .agg #[.int .i64 T', .int .i64 0]) rfl ?_ rfl (hs'.other (by decide) (by decide) (Below.refl _ _))
             go_simp
            ·clear hA
             show Oper.wp _ _ _ _ _ _
             go_simp
             refine (cronUTC_c _).mono ?_
             rintro e w7 ⟨rfl, hb7⟩
             exact ⟨_, rfl, γ, rfl, hs'.other (by decide) (by decide) hb7, fun j t _ _ h => h⟩
            ·have e222 : a.tmps.getD 222 undef = .agg #[.bool bb, .int .i64 dd, .int .u64 q0, .int .u64 q1, .int .u64 q2, .int .u64 q3, .int .u64 q4, .int .u64 q5] := hA.gotL hd 3 222
             have e226 : a.tmps.getD 226 undef = .agg #[.int .i64 T', .int .i64 0] := hA.gotL hd 7 226
             have e227 : a.tmps.getD 227 undef = zUTC := hA.gotL hd 8 227
             clear hA
             show Oper.wp _ _ _ _ _ _
             go_simp
             refine (next_t mm HDM.out _ HCF.out T' 0 gs0 (by omega) (by decide) (by decide) _).mono ?_
             rintro e w7 ⟨⟨r', hr', rfl⟩, hb7⟩
             rw [HRR.out] at hr'
             subst hr'
             exact ⟨_, rfl, γ, rfl, hs'.other (by decide) (by decide) hb7, fun j t _ _ h => h⟩
            ·have e228 : a.tmps.getD 228 undef = .tuple #[.agg #[.int .i64 (r.getD 0), .int .i64 0], .bool r.isSome] := hA.gotL hd 9 228
             clear hA
             refine Region.StepG.pure (X := .tuple #[.agg #[.int .i64 (r.getD 0), .int .i64 0], .bool r.isSome]) rfl ?_ rfl (hs'.other (by decide) (by decide) (Below.refl _ _))
             go_simp
            ·have e218 : a.tmps.getD 218 undef = .tuple #[.agg #[.int .i64 (r.getD 0), .int .i64 0], .bool r.isSome] := hA.gotL hd 10 218
             clear hA
             refine Region.StepG.pure (X := .agg #[.int .i64 (r.getD 0), .int .i64 0]) rfl ?_ rfl (hs'.other (by decide) (by decide) (Below.refl _ _))
             go_simp
            ·have e218 : a.tmps.getD 218 undef = .tuple #[.agg #[.int .i64 (r.getD 0), .int .i64 0], .bool r.isSome] := hA.gotL hd 10 218
             clear hA
             refine Region.StepG.pure (X := .bool r.isSome) rfl ?_ rfl (hs'.other (by decide) (by decide) (Below.refl _ _))
             go_simp
            ·have hn14 : ¬ L 14 := fun h => hnL (hcl 14 h 13 (by decide))
             clear hA
             show Oper.wp _ _ _ _ _ _
             go_simp
             exact ⟨_, rfl, some w6.heap.size, ⟨_, rfl, rfl⟩, hs'.made hn14, fun j' t hj' _ h => BoxW.more (fun e => by subst e; exact hnL hj') h⟩
            ·obtain ⟨b, hγ, e26⟩ : ∃ b, γ = some b ∧ a.tmps.getD 26 undef = .pointer (some ⟨b, 0, none⟩) := hA.gotL hd 13 26
             have e229 : a.tmps.getD 229 undef = .agg #[.int .i64 (r.getD 0), .int .i64 0] := hA.gotL hd 11 229
             subst hγ
             have hbk := hs'.empty b rfl hnL
             have c0 := blk_cell hbk 0
             have c1 := blk_cell hbk 1
             have d0 := blk_frozen hbk 0
             have d1 := blk_frozen hbk 1
             clear hA
             show Oper.wp _ _ _ _ _ _
             go_simp
             exact ⟨undef, some b, trivial, hs'.put (hd 13 (by decide)) hnL, fun j' t _ _ h => BoxW.any h⟩
           ·intro γ a w10 L hs' hall hO hA
            obtain ⟨b, hγ, e26⟩ : ∃ b, γ = some b ∧ a.tmps.getD 26 undef = .pointer (some ⟨b, 0, none⟩) := hA.end' 13 26
            have hbk := hs'.full b hγ (hall 14 (by decide) (by decide))
            have hbel := hs'.below
            obtain ⟨x27, e27⟩ : ∃ x, a.tmps.getD 27 undef = x := ⟨_, rfl⟩
            have e219 : a.tmps.getD 219 undef = .slice (some ⟨g9, 0, none⟩) k c9 := hA.end' 0 219
            have e220 : a.tmps.getD 220 undef = .int .i64 (f : Int) := hA.end' 1 220
            have e221 : a.tmps.getD 221 undef = .pointer (some ⟨g9, f * 8, none⟩) := hA.end' 2 221
            have e222 : a.tmps.getD 222 undef = .agg #[.bool bb, .int .i64 dd, .int .u64 q0, .int .u64 q1, .int .u64 q2, .int .u64 q3, .int .u64 q4, .int .u64 q5] := hA.end' 3 222
            have e223 : a.tmps.getD 223 undef = .slice (some ⟨gA, 0, none⟩) k k := hA.end' 4 223
            have e224 : a.tmps.getD 224 undef = .int .i64 (f : Int) := hA.end' 5 224
            have e225 : a.tmps.getD 225 undef = .pointer (some ⟨gA, f * 2, none⟩) := hA.end' 6 225
            have e226 : a.tmps.getD 226 undef = .agg #[.int .i64 T', .int .i64 0] := hA.end' 7 226
            have e227 : a.tmps.getD 227 undef = zUTC := hA.end' 8 227
            have e228 : a.tmps.getD 228 undef = .tuple #[.agg #[.int .i64 (r.getD 0), .int .i64 0], .bool r.isSome] := hA.end' 9 228
            have e218 : a.tmps.getD 218 undef = .tuple #[.agg #[.int .i64 (r.getD 0), .int .i64 0], .bool r.isSome] := hA.end' 10 218
            have e229 : a.tmps.getD 229 undef = .agg #[.int .i64 (r.getD 0), .int .i64 0] := hA.end' 11 229
            have e230 : a.tmps.getD 230 undef = .bool r.isSome := hA.end' 12 230
            have hfr := hA.frame [(219, .slice (some ⟨g9, 0, none⟩) k c9), (220, .int .i64 (f : Int)), (221, .pointer (some ⟨g9, f * 8, none⟩)), (222, .agg #[.bool bb, .int .i64 dd, .int .u64 q0, .int .u64 q1, .int .u64 q2, .int .u64 q3, .int .u64 q4, .int .u64 q5]), (223, .slice (some ⟨gA, 0, none⟩) k k), (224, .int .i64 (f : Int)), (225, .pointer (some ⟨gA, f * 2, none⟩)), (226, .agg #[.int .i64 T', .int .i64 0]), (227, zUTC), (228, .tuple #[.agg #[.int .i64 (r.getD 0), .int .i64 0], .bool r.isSome]), (218, .tuple #[.agg #[.int .i64 (r.getD 0), .int .i64 0], .bool r.isSome]), (229, .agg #[.int .i64 (r.getD 0), .int .i64 0]), (230, .bool r.isSome), (26, .pointer (some ⟨b, 0, none⟩)), (27, x27)] (List.forall_mem_cons.2 ⟨e219, List.forall_mem_cons.2 ⟨e220, List.forall_mem_cons.2 ⟨e221, List.forall_mem_cons.2 ⟨e222, List.forall_mem_cons.2 ⟨e223, List.forall_mem_cons.2 ⟨e224, List.forall_mem_cons.2 ⟨e225, List.forall_mem_cons.2 ⟨e226, List.forall_mem_cons.2 ⟨e227, List.forall_mem_cons.2 ⟨e228, List.forall_mem_cons.2 ⟨e218, List.forall_mem_cons.2 ⟨e229, List.forall_mem_cons.2 ⟨e230, List.forall_mem_cons.2 ⟨e26, List.forall_mem_cons.2 ⟨e27, fun _ h => absurd h List.not_mem_nil⟩⟩⟩⟩⟩⟩⟩⟩⟩⟩⟩⟩⟩⟩⟩) (by kernel_rfl)
            have HX10 := Lib.hid (HXC.out.goes hbel)
            have l0 := blk_cell hbk 0
            have l1 := blk_cell hbk 1
            have hba : b ≠ gA := fun e => by obtain ⟨ca, h, _⟩ := HXC.out.u.a; have := blk_lt h; have := hs'.ge b hγ; omega
            have hbz : b ≠ gZ := fun e => by obtain ⟨ca, h, _⟩ := HXC.out.u.z; have := blk_lt h; have := hs'.ge b hγ; omega
            clear hs' hall hO hbk hbel hγ HXC e219 e220 e221 e222 e223 e224 e225 e226 e227 e228 e218 e229 e230 e26 e27
            clear hA
            clear L γ
            subst hfr
            simp only [List.foldl_cons, List.foldl_nil]
            simp only [List.setIfInBounds_toArray, List.set_cons_zero, List.set_cons_succ]
            show Oper.wp _ _ _ _ _ _
            have ht := HX10.out.u.a.there f hf
            obtain ⟨y0, ca0⟩ := Option.isSome_iff_exists.1 (ht 0 (by decide)).1
            obtain ⟨y1, ca1⟩ := Option.isSome_iff_exists.1 (ht 1 (by decide)).1
            have da0 := (ht 0 (by decide)).2
            have da1 := (ht 1 (by decide)).2
            obtain ⟨⟨vz, cz⟩, dz⟩ := HX10.out.u.z.there f hf
            have hne := HX10.out.u.ne.1
            rw [Nat.add_zero] at ca0 da0
            have HXP := Lib.hid (HX10.out.put f hf r)
            rw [show (!r.isSome) = r.isNone by cases r <;> rfl] at HXP
            clear ht HX10
            go_wp2
            exact ⟨⟨0 + 1, T', X', upd y f r, rfl, by rw [← HNR.out]; exact HRN.out, fun i hi v hv => by
             unfold upd at hv
             by_cases e : i = f
             ·rw [if_pos e] at hv
              have h1 := nextR_bound HDM.out (s := T') (v := v) (by rw [HRR.out]; exact hv)
              omega
             ·rw [if_neg e] at hv; exact HBD.out i hi v hv, HXP.out⟩, by simp [intOf]; omega⟩
         | succ q =>
          have hTq : T = (E[q]'(by omega)).2 := (HRUN.out.last (show q + 1 - 1 < E.length by omega) (by omega)).symm
          have hqE : q < E.length := by omega
          have HTT' := Lib.hid (show decide (T' < T) = false from decide_eq_false (by have := HTT.out; omega))
          have HTQ := Lib.hid hTq
          clear hTq
          refine wp_region_det (F := ?FN) (by kernel_rfl) 254 rfl 17 [(201, .bool true), (202, .bool false), (203, .bool false), (204, .int .i64 ((q + 1 : Nat) : Int)), (205, .bool true), (206, .bool true), (207, .pointer (some ⟨gT, 1, none⟩)), (208, .agg #[.int .i64 T', .int .i64 0]), (209, .slice (some ⟨gE, 0, none⟩) E.length cE), (210, .int .i64 ((q + 1 : Nat) : Int)), (211, .int .i64 (q : Int)), (212, .pointer (some ⟨gE, q * 3, none⟩)), (213, .pointer (some ⟨gE, q * 3 + 1, none⟩)), (214, .agg #[.int .i64 T, .int .i64 0]), (215, .bool false), (216, .bool false), (217, .bool false)] ?hFN (by kernel_rfl) (fun w' => Below wj.heap.size wj w') (fun _ _ h hb => below_step h hb) ((Below.refl _ _).drew) ?_ ?_
          case hFN =>
           simp only [List.foldl_cons, List.foldl_nil, List.setIfInBounds_toArray, List.set_cons_zero, List.set_cons_succ]
           rfl
          ·and_intros
           all_goals first | exact trivial | intro _ w9 h9
           all_goals
            obtain ⟨gE', eA, d0, d1, d2⟩ := (HXJ.out.goes h9).e.at q hqE
            cases eA
            rw [← HTQ.out] at d1
            have t1 := blk_cell (blk_below HTJ.out h9) 1
            have t2 := blk_cell (blk_below HTJ.out h9) 2
            have hb := Below.refl w9.heap.size w9
            clear h9
            first
            | (change Oper.wp _ _ _ _ _ _; go_simp)
            | (change (_ = _ → Oper.wp _ _ _ _ _ _) ∧ _; refine ⟨fun _ => ?_, fun h => absurd rfl h⟩; go_simp)
           ·rw [IntKind.wrap_i64]; omega
           refine (before0_c T' T _).mono ?_
           rw [HTT'.out]
           rintro e w4 ⟨rfl, hb⟩
           exact ⟨rfl, hb⟩
          ·intro w9 h9
           show Exit.then _ _ .normal _ w9
           have HXC := Lib.hid (HXJ.out.goes h9)
           clear h9 HTJ HXJ HBJ HTT HRUN
           obtain ⟨mm, hmm⟩ : ∃ m, ms[f]'(by rw [HML.out]; exact hf) = m := ⟨_, rfl⟩
           have hdm : DelOk mm := by obtain ⟨_, _, hR, _⟩ := HGD.out f hf; rw [hmm] at hR; exact parse_delay hR
           have hcf := HCS.out f (by rw [HCL.out]; exact hf) (by rw [HML.out]; exact hf)
           rw [hmm] at hcf
           obtain ⟨bb, dd, q0, q1, q2, q3, q4, q5, hsh⟩ := hcf.shape
           have hcs : css[f]'(by rw [HCL.out]; exact hf) = [.bool bb, .int .i64 dd, .int .u64 q0, .int .u64 q1, .int .u64 q2, .int .u64 q3, .int .u64 q4, .int .u64 q5] := by have := congrArg Array.toList hsh; simpa using this
           rw [hsh] at hcf
           obtain ⟨r, hr⟩ : ∃ r, nextR mm T' = r := ⟨_, rfl⟩
           have hnx : nxtM ms f T' = r := by unfold nxtM; rw [List.getD_eq_getElem?_getD, List.getElem?_eq_getElem (show f < ms.length by rw [HML.out]; exact hf), Option.getD_some, hmm]; exact hr
           have HDM := Lib.hid hdm
           have HCF := Lib.hid hcf
           have HSH := Lib.hid hcs
           have HRR := Lib.hid hr
           have HNR := Lib.hid hnx
           have hfl : f < css.length := by rw [HCL.out]; exact hf
           clear hmm hdm hcf hsh hcs hr hnx
           go_upto_region 39 with (fail)
           refine wp_region_ghost (by kernel_rfl) 254 rfl 15 (BoxW g9 gA k f c9 #[.bool bb, .int .i64 dd, .int .u64 q0, .int .u64 q1, .int .u64 q2, .int .u64 q3, .int .u64 q4, .int .u64 q5] T' r) (BoxT w9 r) none (by kernel_rfl) (by kernel_rfl) (by kernel_rfl) (by kernel_rfl) (by kernel_rfl) ⟨(Below.refl _ _).drew, fun b e => (by cases e), fun b e => (by cases e), fun b e => (by cases e), fun e => e.elim, fun e => e.elim⟩ ?_ ?_
           ·refine ⟨fun _ γ a w6 L hs' hA hnL hd hcl hO => ?_, fun _ γ a w6 L hs' hA hnL hd hcl hO => ?_, fun _ γ a w6 L hs' hA hnL hd hcl hO => ?_, fun _ γ a w6 L hs' hA hnL hd hcl hO => ?_, fun _ γ a w6 L hs' hA hnL hd hcl hO => ?_, fun _ γ a w6 L hs' hA hnL hd hcl hO => ?_, fun _ γ a w6 L hs' hA hnL hd hcl hO => ?_, fun _ γ a w6 L hs' hA hnL hd hcl hO => ?_, fun _ γ a w6 L hs' hA hnL hd hcl hO => ?_, fun _ γ a w6 L hs' hA hnL hd hcl hO => ?_, fun _ γ a w6 L hs' hA hnL hd hcl hO => ?_, fun _ γ a w6 L hs' hA hnL hd hcl hO => ?_, fun _ γ a w6 L hs' hA hnL hd hcl hO => ?_, fun _ γ a w6 L hs' hA hnL hd hcl hO => ?_, fun _ γ a w6 L hs' hA hnL hd hcl hO => ?_, fun h => absurd rfl h, trivial⟩
            ·have e : a.tmps.getD 9 undef = .slice (some ⟨g9, 0, none⟩) k c9 := hA.old' 9
             clear hA
             refine Region.StepG.pure (X := .slice (some ⟨g9, 0, none⟩) k c9) rfl ?_ rfl (hs'.other (by decide) (by decide) (Below.refl _ _))
             go_simp
            ·have e : a.tmps.getD 22 undef = .int .i64 (f : Int) := hA.old' 22
             clear hA
             refine Region.StepG.pure (X := .int .i64 (f : Int)) rfl ?_ rfl (hs'.other (by decide) (by decide) (Below.refl _ _))
             go_simp
            ·have e219 : a.tmps.getD 219 undef = .slice (some ⟨g9, 0, none⟩) k c9 := hA.gotL hd 0 219
             have e220 : a.tmps.getD 220 undef = .int .i64 (f : Int) := hA.gotL hd 1 220
             clear hA
             refine Region.StepG.pure (X := .pointer (some ⟨g9, f * 8, none⟩)) rfl ?_ rfl (hs'.other (by decide) (by decide) (Below.refl _ _))
             go_simp
            ·have e221 : a.tmps.getD 221 undef = .pointer (some ⟨g9, f * 8, none⟩) := hA.gotL hd 2 221
             obtain ⟨l0, l1, l2, l3, l4, l5, l6, l7⟩ := (HXC.out.goes hs'.below).u.sched f hfl HSH.out
             clear hA
             refine Region.StepG.pure (X := .agg #[.bool bb, .int .i64 dd, .int .u64 q0, .int .u64 q1, .int .u64 q2, .int .u64 q3, .int .u64 q4, .int .u64 q5]) rfl ?_ rfl (hs'.other (by decide) (by decide) (Below.refl _ _))
             go_simp
            ·have e : a.tmps.getD 10 undef = .slice (some ⟨gA, 0, none⟩) k k := hA.old' 10
             clear hA
             refine Region.StepG.pure (X := .slice (some ⟨gA, 0, none⟩) k k) rfl ?_ rfl (hs'.other (by decide) (by decide) (Below.refl _ _))
             go_simp
            ·have e : a.tmps.getD 22 undef = .int .i64 (f : Int) := hA.old' 22
             clear hA
             refine Region.StepG.pure (X := .int .i64 (f : Int)) rfl ?_ rfl (hs'.other (by decide) (by decide) (Below.refl _ _))
             go_simp
            ·have e223 : a.tmps.getD 223 undef = .slice (some ⟨gA, 0, none⟩) k k := hA.gotL hd 4 223
             have e224 : a.tmps.getD 224 undef = .int .i64 (f : Int) := hA.gotL hd 5 224
             clear hA
             refine Region.StepG.pure (X := .pointer (some ⟨gA, f * 2, none⟩)) rfl ?_ rfl (hs'.other (by decide) (by decide) (Below.refl _ _))
             go_simp
            ·have e225 : a.tmps.getD 225 undef = .pointer (some ⟨gA, f * 2, none⟩) := hA.gotL hd 6 225
             obtain ⟨y0, y1⟩ := (HXC.out.goes hs'.below).u.a.at f hf
             rw [HSC.out] at y0
             clear hA
             refine Region.StepG.pure (X := .agg #[.int .i64 T', .int .i64 0]) rfl ?_ rfl (hs'.other (by decide) (by decide) (Below.refl _ _))
             go_simp
            ·clear hA
             show Oper.wp _ _ _ _ _ _
             go_simp
             refine (cronUTC_c _).mono ?_
             rintro e w7 ⟨rfl, hb7⟩
             exact ⟨_, rfl, γ, rfl, hs'.other (by decide) (by decide) hb7, fun j t _ _ h => h⟩
            ·have e222 : a.tmps.getD 222 undef = .agg #[.bool bb, .int .i64 dd, .int .u64 q0, .int .u64 q1, .int .u64 q2, .int .u64 q3, .int .u64 q4, .int .u64 q5] := hA.gotL hd 3 222
             have e226 : a.tmps.getD 226 undef = .agg #[.int .i64 T', .int .i64 0] := hA.gotL hd 7 226
             have e227 : a.tmps.getD 227 undef = zUTC := hA.gotL hd 8 227
             clear hA
             show Oper.wp _ _ _ _ _ _
             go_simp
             refine (next_t mm HDM.out _ HCF.out T' 0 gs0 (by omega) (by decide) (by decide) _).mono ?_
             rintro e w7 ⟨⟨r', hr', rfl⟩, hb7⟩
             rw [HRR.out] at hr'
             subst hr'
             exact ⟨_, rfl, γ, rfl, hs'.other (by decide) (by decide) hb7, fun j t _ _ h => h⟩
            ·have e228 : a.tmps.getD 228 undef = .tuple #[.agg #[.int .i64 (r.getD 0), .int .i64 0], .bool r.isSome] := hA.gotL hd 9 228
             clear hA
             refine Region.StepG.pure (X := .tuple #[.agg #[.int .i64 (r.getD 0), .int .i64 0], .bool r.isSome]) rfl ?_ rfl (hs'.other (by decide) (by decide) (Below.refl _ _))
             go_simp
            ·have e218 : a.tmps.getD 218 undef = .tuple #[.agg #[.int .i64 (r.getD 0), .int .i64 0], .bool r.isSome] := hA.gotL hd 10 218
             clear hA
             refine Region.StepG.pure (X := .agg #[.int .i64 (r.getD 0), .int .i64 0]) rfl ?_ rfl (hs'.other (by decide) (by decide) (Below.refl _ _))
             go_simp
            ·have e218 : a.tmps.getD 218 undef = .tuple #[.agg #[.int .i64 (r.getD 0), .int .i64 0], .bool r.isSome] := hA.gotL hd 10 218
             clear hA
             refine Region.StepG.pure (X := .bool r.isSome) rfl ?_ rfl (hs'.other (by decide) (by decide) (Below.refl _ _))
             go_simp
            ·have hn14 : ¬ L 14 := fun h => hnL (hcl 14 h 13 (by decide))
             clear hA
             show Oper.wp _ _ _ _ _ _
             go_simp
             exact ⟨_, rfl, some w6.heap.size, ⟨_, rfl, rfl⟩, hs'.made hn14, fun j' t hj' _ h => BoxW.more (fun e => by subst e; exact hnL hj') h⟩
            ·obtain ⟨b, hγ, e26⟩ : ∃ b, γ = some b ∧ a.tmps.getD 26 undef = .pointer (some ⟨b, 0, none⟩) := hA.gotL hd 13 26
             have e229 : a.tmps.getD 229 undef = .agg #[.int .i64 (r.getD 0), .int .i64 0] := hA.gotL hd 11 229
             subst hγ
             have hbk := hs'.empty b rfl hnL
             have c0 := blk_cell hbk 0
             have c1 := blk_cell hbk 1
             have d0 := blk_frozen hbk 0
             have d1 := blk_frozen hbk 1
             clear hA
             show Oper.wp _ _ _ _ _ _
             go_simp
             exact ⟨undef, some b, trivial, hs'.put (hd 13 (by decide)) hnL, fun j' t _ _ h => BoxW.any h⟩
           ·intro γ a w10 L hs' hall hO hA
            obtain ⟨b, hγ, e26⟩ : ∃ b, γ = some b ∧ a.tmps.getD 26 undef = .pointer (some ⟨b, 0, none⟩) := hA.end' 13 26
            have hbk := hs'.full b hγ (hall 14 (by decide) (by decide))
            have hbel := hs'.below
            obtain ⟨x27, e27⟩ : ∃ x, a.tmps.getD 27 undef = x := ⟨_, rfl⟩
            have e219 : a.tmps.getD 219 undef = .slice (some ⟨g9, 0, none⟩) k c9 := hA.end' 0 219
            have e220 : a.tmps.getD 220 undef = .int .i64 (f : Int) := hA.end' 1 220
            have e221 : a.tmps.getD 221 undef = .pointer (some ⟨g9, f * 8, none⟩) := hA.end' 2 221
            have e222 : a.tmps.getD 222 undef = .agg #[.bool bb, .int .i64 dd, .int .u64 q0, .int .u64 q1, .int .u64 q2, .int .u64 q3, .int .u64 q4, .int .u64 q5] := hA.end' 3 222
            have e223 : a.tmps.getD 223 undef = .slice (some ⟨gA, 0, none⟩) k k := hA.end' 4 223
            have e224 : a.tmps.getD 224 undef = .int .i64 (f : Int) := hA.end' 5 224
            have e225 : a.tmps.getD 225 undef = .pointer (some ⟨gA, f * 2, none⟩) := hA.end' 6 225
            have e226 : a.tmps.getD 226 undef = .agg #[.int .i64 T', .int .i64 0] := hA.end' 7 226
            have e227 : a.tmps.getD 227 undef = zUTC := hA.end' 8 227
            have e228 : a.tmps.getD 228 undef = .tuple #[.agg #[.int .i64 (r.getD 0), .int .i64 0], .bool r.isSome] := hA.end' 9 228
            have e218 : a.tmps.getD 218 undef = .tuple #[.agg #[.int .i64 (r.getD 0), .int .i64 0], .bool r.isSome] := hA.end' 10 218
            have e229 : a.tmps.getD 229 undef = .agg #[.int .i64 (r.getD 0), .int .i64 0] := hA.end' 11 229
            have e230 : a.tmps.getD 230 undef = .bool r.isSome := hA.end' 12 230
            have hfr := hA.frame [(219, .slice (some ⟨g9, 0, none⟩) k c9), (220, .int .i64 (f : Int)), (221, .pointer (some ⟨g9, f * 8, none⟩)), (222, .agg #[.bool bb, .int .i64 dd, .int .u64 q0, .int .u64 q1, .int .u64 q2, .int .u64 q3, .int .u64 q4, .int .u64 q5]), (223, .slice (some ⟨gA, 0, none⟩) k k), (224, .int .i64 (f : Int)), (225, .pointer (some ⟨gA, f * 2, none⟩)), (226, .agg #[.int .i64 T', .int .i64 0]), (227, zUTC), (228, .tuple #[.agg #[.int .i64 (r.getD 0), .int .i64 0], .bool r.isSome]), (218, .tuple #[.agg #[.int .i64 (r.getD 0), .int .i64 0], .bool r.isSome]), (229, .agg #[.int .i64 (r.getD 0), .int .i64 0]), (230, .bool r.isSome), (26, .pointer (some ⟨b, 0, none⟩)), (27, x27)] (List.forall_mem_cons.2 ⟨e219, List.forall_mem_cons.2 ⟨e220, List.forall_mem_cons.2 ⟨e221, List.forall_mem_cons.2 ⟨e222, List.forall_mem_cons.2 ⟨e223, List.forall_mem_cons.2 ⟨e224, List.forall_mem_cons.2 ⟨e225, List.forall_mem_cons.2 ⟨e226, List.forall_mem_cons.2 ⟨e227, List.forall_mem_cons.2 ⟨e228, List.forall_mem_cons.2 ⟨e218, List.forall_mem_cons.2 ⟨e229, List.forall_mem_cons.2 ⟨e230, List.forall_mem_cons.2 ⟨e26, List.forall_mem_cons.2 ⟨e27, fun _ h => absurd h List.not_mem_nil⟩⟩⟩⟩⟩⟩⟩⟩⟩⟩⟩⟩⟩⟩⟩) (by kernel_rfl)
            have HX10 := Lib.hid (HXC.out.goes hbel)
            have l0 := blk_cell hbk 0
            have l1 := blk_cell hbk 1
            have hba : b ≠ gA := fun e => by obtain ⟨ca, h, _⟩ := HXC.out.u.a; have := blk_lt h; have := hs'.ge b hγ; omega
            have hbz : b ≠ gZ := fun e => by obtain ⟨ca, h, _⟩ := HXC.out.u.z; have := blk_lt h; have := hs'.ge b hγ; omega
            clear hs' hall hO hbk hbel hγ HXC e219 e220 e221 e222 e223 e224 e225 e226 e227 e228 e218 e229 e230 e26 e27
            clear hA
            clear L γ
            subst hfr
            simp only [List.foldl_cons, List.foldl_nil]
            simp only [List.setIfInBounds_toArray, List.set_cons_zero, List.set_cons_succ]
            show Oper.wp _ _ _ _ _ _
            have ht := HX10.out.u.a.there f hf
            obtain ⟨y0, ca0⟩ := Option.isSome_iff_exists.1 (ht 0 (by decide)).1
            obtain ⟨y1, ca1⟩ := Option.isSome_iff_exists.1 (ht 1 (by decide)).1
            have da0 := (ht 0 (by decide)).2
            have da1 := (ht 1 (by decide)).2
            obtain ⟨⟨vz, cz⟩, dz⟩ := HX10.out.u.z.there f hf
            have hne := HX10.out.u.ne.1
            rw [Nat.add_zero] at ca0 da0
            have HXP := Lib.hid (HX10.out.put f hf r)
            rw [show (!r.isSome) = r.isNone by cases r <;> rfl] at HXP
            clear ht HX10
            go_wp2
            exact ⟨⟨(q + 1) + 1, T', X', upd y f r, rfl, by rw [← HNR.out]; exact HRN.out, fun i hi v hv => by
             unfold upd at hv
             by_cases e : i = f
             ·rw [if_pos e] at hv
              have h1 := nextR_bound HDM.out (s := T') (v := v) (by rw [HRR.out]; exact hv)
              omega
             ·rw [if_neg e] at hv; exact HBD.out i hi v hv, HXP.out⟩, by simp [intOf]; omega⟩
     ·obtain rfl : q = E.length := by omega
      obtain ⟨v1, hv1⟩ : ∃ b, decide (E.length < M) = b := ⟨_, rfl⟩
      cases v1 with
      | false =>
       go_wp2
       go_ret
       exact ⟨rfl, HX.out.u.row.below⟩
      | true =>
      have hyn := HRUN.out.done rfl (by have := of_decide_eq_true hv1; omega)
      have HYN := Lib.hid (show ∀ i, i < k → someM y i = false from fun i hi => by unfold someM; rw [hyn i hi]; rfl)
      clear hyn HRUN HBD
      go_wp2
      go_loopw [247] (fun v247 wr3 => ∃ j : Nat, v247 = .int .i64 (j : Int) ∧ j ≤ k ∧ Below wr.heap.size wr wr3) (fun v247 _ => k - (intOf v247).toNat)
      case atStart => exact ⟨0, rfl, Nat.zero_le _, Below.refl _ _⟩
      case round =>
       obtain ⟨j, rfl, hj, hb⟩ := hrel
       have HXJ := Lib.hid (HX.out.goes hb)
       have HBJ := Lib.hid hb
       clear hb
       by_cases hjk : j < k
       ·have cz := HXJ.out.u.z.at j hjk
        rw [HYN.out j hjk] at cz
        go_wp2
        exact ⟨⟨j + 1, rfl, hjk, HBJ.out⟩, by simp [intOf]; omega⟩
       ·obtain rfl : j = k := by omega
        go_wp2
        go_ret
        exact ⟨rfl, HXJ.out.u.row.below⟩
end Go.Proofs.YtcjdideliifkhaaGreatDoor
