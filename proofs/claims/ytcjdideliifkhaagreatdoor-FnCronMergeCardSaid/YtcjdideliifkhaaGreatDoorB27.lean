import Derived.Test.YtcjdideliifkhaaGreatDoorB26
set_option maxRecDepth 100000
set_option maxHeartbeats 16000000
namespace Go.Proofs.YtcjdideliifkhaaGreatDoor
open Go.RowKit Go.Proofs.YtcjdideliifkhaaGreatDoorW.PrintWords Go.Proofs.YtcjdideliifkhaaGreatDoorW.PrintLast Go.Proofs.YtcjdideliifkhaaGreatDoorW.PrintMore PFnCronTextAfterAnywhere
set_option linter.unusedVariables false
set_option linter.unusedSimpArgs false
def everyL : Txt := [64, 101, 118, 101, 114, 121, 32]
def DescR (l : Txt) (m : CMean) : Prop :=
 (describedL l ≠ [] ∧ FieldsR 380 (describedL l) m) ∨ (describedL l = [] ∧ begins l everyL = true ∧ ∃ d, DurR (l.drop 7) d ∧ m = ⟨true, delayL d, CF.zero, false⟩)
def PlainR (o : Int) (l : Txt) (m : CMean) : Prop :=
 (begins l [64] = false ∧ FieldsR o l m) ∨ (begins l [64] = true ∧ Go.bits .and .i64 o 256 ≠ 0 ∧ DescR l m)
theorem described_small (l : Txt) : (describedL l).length ≤ 9 ∧ begins (describedL l) [64] = false := by
 unfold describedL
 repeat' split
 all_goals decide
theorem two_std : spec_CronTwoOptional.f ((380 : Nat) : Int) = some false := by decide
theorem descriptor_c (s : ByteArray) (hs : s.size ≤ 4294967200) (w : World) :
  Calls Tryz.prog 42 #[.string s] w (PlainQ (DescR (toL s)) w) := by
 obtain ⟨kd, hkd⟩ := (described_f s).rounds
 have hR : ∀ m, DescR (toL s) m = ((describedL (toL s) ≠ [] ∧ FieldsR 380 (describedL (toL s)) m) ∨ (describedL (toL s) = [] ∧ begins (toL s) everyL = true ∧ ∃ d, DurR ((toL s).drop 7) d ∧ m = ⟨true, delayL d, CF.zero, false⟩)) := fun _ => rfl
 have hsm := described_small (toL s)
 generalize describedL (toL s) = five at hkd hR hsm
 have HR := Lib.hid hR
 have HD := Lib.hid hkd
 clear hR hkd
 go_enter Tryz.func42, Tryz.ntmps42
 go_upto_region 1 with (refine wpList_alloc_mean rfl rfl ?_; intro g hg w1 hz hb hlt)
 subst hg
 have HB := Lib.hid hb
 have HZ := Lib.hid hz
 clear hb hz hlt
 by_cases h5 : five = []
 ·have hne : ((ofL five).toList == ([] : List UInt8)) = true := by rw [toList_toL, toL_ofL, h5]; rfl
  have hne2 : ((ofL five).toList != ([] : List UInt8)) = false := by rw [toList_toL, toL_ofL, h5]; rfl
  have H5 := Lib.hid h5
  clear h5 hsm
  have hbeg := begins_f s everyL
  cases hev : begins (toL s) everyL with
  | true =>
   rw [hev] at hbeg
   have h7 : 7 ≤ s.size := by
    unfold begins at hev
    rw [Bool.and_eq_true, decide_eq_true_eq, toL_len] at hev
    exact hev.1
   have hext : s.extract 7 s.size = ofL ((toL s).drop 7) := by rw [extract_ofL, List.take_of_length_le (by rw [toL_len]; exact Nat.le_refl _)]
   obtain ⟨d, v, hv0, hv1, hkk⟩ := dur_c (s.extract 7 s.size) (by rw [ByteArray.size_extract]; omega)
   rw [hext, toL_ofL] at hv1
   have HV1 := Lib.hid hv1
   have HKK := Lib.hid hkk
   have HBEG := Lib.hid hbeg
   have HEV := Lib.hid hev
   clear hv1 hkk hbeg hext hev
   by_cases hv : v = 1
   ·subst hv
    have hdr := HV1.out rfl
    have HDR := Lib.hid hdr
    have hdl := delay_f d (DurR_le hdr)
    clear HV1 hdr
    go_wp2_with (first
     | (go_at_call 77; refine (spec_CronDescribed.calls kd s _ _ HD.out).mono ?_; rintro e w2 ⟨rfl, hb2⟩; have HB2 := Lib.hid (below_step HB.out hb2.below); have HZ2 := Lib.hid (HZ.out.below hb2.below); clear hb2)
     | (go_at_call 41; refine (spec_cronBegins.calls s (ofL everyL) true _ HBEG.out).mono ?_; rintro e w3 ⟨rfl, hb3⟩; have HB3 := Lib.hid (below_step HB2.out hb3.below); have HZ3 := Lib.hid (HZ2.out.below hb3.below); clear hb3)
     | (go_at_call 78; refine (HKK.out _).mono ?_; rintro e w4 ⟨rfl, hb4⟩; have HB4 := Lib.hid (below_step HB3.out hb4); have HZ4 := Lib.hid (HZ3.out.below hb4); clear hb4)
     | (go_at_call 79; refine (spec_CronDelay.calls d (delayL d) _ hdl).mono ?_; rintro e w5 ⟨rfl, hb5⟩; have HB5 := Lib.hid (below_step HB4.out hb5.below); have HZ5 := Lib.hid (HZ4.out.below hb5.below); have hz5 := HZ5.out; clear hb5)
     | (refine wpList_exec (.build 40 #[(0, .const (.bool true)), (1, .tmp 33)]) rfl rfl (.agg (CMean.mk true (delayL d) CF.zero false).cells.toArray) (by kernel_rfl) ?_)
     | (refine wpList_store_mean rfl _ _ rfl w.heap.size CMean.zero (CMean.mk true (delayL d) CF.zero false) rfl rfl hz5 ?_; intro w6 g1 g2))
    exact bodyPost_ret (results_ct rfl _ _ _ 40 _ _ _ rfl g1 Tryz.underlying40 rfl (by rw [List.size_toArray, CMean.cells_len]; kernel_rfl)) rfl
     ⟨⟨CMean.mk true (delayL d) CF.zero false, 1, rfl, by decide, fun _ => by rw [HR.out]; exact .inr ⟨H5.out, HEV.out, d, HDR.out, rfl⟩⟩, HB5.out.trans (g2 _ (Nat.le_refl _))⟩
   ·have hvb : (v != 1) = true := by simpa using hv
    go_wp2_with (first
     | (go_at_call 77; refine (spec_CronDescribed.calls kd s _ _ HD.out).mono ?_; rintro e w2 ⟨rfl, hb2⟩; have HB2 := Lib.hid (below_step HB.out hb2.below); have HZ2 := Lib.hid (HZ.out.below hb2.below); clear hb2)
     | (go_at_call 41; refine (spec_cronBegins.calls s (ofL everyL) true _ HBEG.out).mono ?_; rintro e w3 ⟨rfl, hb3⟩; have HB3 := Lib.hid (below_step HB2.out hb3.below); have HZ3 := Lib.hid (HZ2.out.below hb3.below); clear hb3)
     | (go_at_call 78; refine (HKK.out _).mono ?_; rintro e w4 ⟨rfl, hb4⟩; have HB4 := Lib.hid (below_step HB3.out hb4); have HZ4 := Lib.hid (HZ3.out.below hb4); have hz4 := HZ4.out; clear hb4)
     | (refine wpList_exec (.build 40 #[]) rfl rfl (.agg CMean.zero.cells.toArray) (by kernel_rfl) ?_)
     | (refine wpList_store_mean rfl _ _ rfl w.heap.size CMean.zero CMean.zero rfl rfl hz4 ?_; intro w6 g1 g2))
    exact bodyPost_ret (results_ct rfl _ _ _ 40 _ _ _ rfl g1 Tryz.underlying40 rfl (by rw [List.size_toArray, CMean.cells_len]; kernel_rfl)) rfl
     ⟨⟨CMean.zero, v, rfl, hv0, fun h => absurd h hv⟩, HB4.out.trans (g2 _ (Nat.le_refl _))⟩
  | false =>
   rw [hev] at hbeg
   have HBEG := Lib.hid hbeg
   have hkw := fun w => words_c s (by omega) w
   obtain ⟨kf, hkf⟩ := (foreign_f s (by omega)).rounds
   have hwl := (wordsL_sum (toL s) none).2
   rw [toL_len] at hwl
   generalize wordsL none (toL s) = ws at *
   generalize foreign (toL s) = fo at *
   have HKW := Lib.hid hkw
   have HKF := Lib.hid hkf
   clear hbeg hev hkw hkf
   go_upto_region 11 with (first
     | (go_at_call 77; refine (spec_CronDescribed.calls kd s _ _ HD.out).mono ?_; rintro e w2 ⟨rfl, hb2⟩; have HB2 := Lib.hid (below_step HB.out hb2.below); have HZ2 := Lib.hid (HZ.out.below hb2.below); clear hb2)
     | (go_at_call 41; refine (spec_cronBegins.calls s (ofL everyL) false _ HBEG.out).mono ?_; rintro e w3 ⟨rfl, hb3⟩; have HB3 := Lib.hid (below_step HB2.out hb3.below); have HZ3 := Lib.hid (HZ2.out.below hb3.below); clear hb3)
     | (go_at_call 43; refine (HKW.out _).mono ?_; rintro e w4 ⟨vw, rfl, hR4, hb4⟩; have HB4 := Lib.hid (below_step HB3.out hb4); have HZ4 := Lib.hid (HZ3.out.below hb4); have hsl : ∃ A c, vw = .slice A ws.length c := (by obtain ⟨A, c, e⟩ := (Strs.of hR4).isSlice; exact ⟨A, c, by rw [e]; simp⟩); obtain ⟨A4, c4, rfl⟩ := hsl; have HS4 := Lib.hid (Strs.of hR4); clear hb4 hR4))
   cases fo with
   | true =>
    go_wp2_with (first
     | (go_at_call 27; refine (spec_cronForeign.calls kf s true _ HKF.out).mono ?_; rintro e w5 ⟨rfl, hb5⟩; have HB5 := Lib.hid (below_step HB4.out hb5.below); have HZ5 := Lib.hid (HZ4.out.below hb5.below); have hz5 := HZ5.out; clear hb5)
     | (refine wpList_exec (.build 40 #[]) rfl rfl (.agg CMean.zero.cells.toArray) (by kernel_rfl) ?_)
     | (refine wpList_store_mean rfl _ _ rfl w.heap.size CMean.zero CMean.zero rfl rfl hz5 ?_; intro w6 g1 g2))
    exact bodyPost_ret (results_ct rfl _ _ _ 40 _ _ _ rfl g1 Tryz.underlying40 rfl (by rw [List.size_toArray, CMean.cells_len]; kernel_rfl)) rfl
      ⟨⟨CMean.zero, 2, rfl, by decide, fun h => by cases h⟩, HB5.out.trans (g2 _ (Nat.le_refl _))⟩
   | false =>
    by_cases h1 : ws.length = 1
    ·obtain ⟨x, rfl⟩ := List.length_eq_one_iff.1 h1
     clear h1
     obtain ⟨A', c', e', hr⟩ := HS4.out
     injection e' with e1 e2 e3
     subst e1 e3
     obtain ⟨ad, rfl, hc⟩ := hr 0 (by simp)
     have HC := Lib.hid (show w4.cell? ad = some (.string (ofL x)) by rw [Addr.add_zero'] at hc; exact hc)
     clear e2 hr hc
     rw [show ([x] : List Txt).length = 1 from rfl]
     go_wp2_with (first
     | (go_at_call 27; refine (spec_cronForeign.calls kf s false _ HKF.out).mono ?_; rintro e w5 ⟨rfl, hb5⟩; have HB5 := Lib.hid (below_step HB4.out hb5.below); have HZ5 := Lib.hid (HZ4.out.below hb5.below); have hz5 := HZ5.out; have hc5 := pw_cell_below hb5.below HC.out; clear hb5)
     | (refine wpList_exec (.build 40 #[]) rfl rfl (.agg CMean.zero.cells.toArray) (by kernel_rfl) ?_)
     | (refine wpList_store_mean rfl _ _ rfl w.heap.size CMean.zero CMean.zero rfl rfl hz5 ?_; intro w6 g1 g2))
     ·exact bodyPost_ret (results_ct rfl _ _ _ 40 _ _ _ rfl g1 Tryz.underlying40 rfl (by rw [List.size_toArray, CMean.cells_len]; kernel_rfl)) rfl
       ⟨⟨CMean.zero, 2, rfl, by decide, fun h => by cases h⟩, HB5.out.trans (g2 _ (Nat.le_refl _))⟩
     ·exact bodyPost_ret (results_ct rfl _ _ _ 40 _ _ _ rfl g1 Tryz.underlying40 rfl (by rw [List.size_toArray, CMean.cells_len]; kernel_rfl)) rfl
       ⟨⟨CMean.zero, 0, rfl, by decide, fun h => by cases h⟩, HB5.out.trans (g2 _ (Nat.le_refl _))⟩
    ·have hn1 : ((ws.length : Int) == 1) = false := by simp; omega
     go_wp2_with (first
     | (go_at_call 27; refine (spec_cronForeign.calls kf s false _ HKF.out).mono ?_; rintro e w5 ⟨rfl, hb5⟩; have HB5 := Lib.hid (below_step HB4.out hb5.below); have HZ5 := Lib.hid (HZ4.out.below hb5.below); have hz5 := HZ5.out; clear hb5)
     | (refine wpList_exec (.build 40 #[]) rfl rfl (.agg CMean.zero.cells.toArray) (by kernel_rfl) ?_)
     | (refine wpList_store_mean rfl _ _ rfl w.heap.size CMean.zero CMean.zero rfl rfl hz5 ?_; intro w6 g1 g2))
     exact bodyPost_ret (results_ct rfl _ _ _ 40 _ _ _ rfl g1 Tryz.underlying40 rfl (by rw [List.size_toArray, CMean.cells_len]; kernel_rfl)) rfl
      ⟨⟨CMean.zero, 0, rfl, by decide, fun h => by cases h⟩, HB5.out.trans (g2 _ (Nat.le_refl _))⟩
 ·have hne : ((ofL five).toList == ([] : List UInt8)) = false := by rw [toList_toL, toL_ofL]; simpa using h5
  have hne2 : ((ofL five).toList != ([] : List UInt8)) = true := by rw [toList_toL, toL_ofL]; simpa using h5
  have H5 := Lib.hid h5
  obtain ⟨hl5, hb5⟩ := hsm
  have hsz : (ofL five).size ≤ 4294967200 := by rw [ofL_size]; omega
  have HC := Lib.hid (plain_c0 380 (by decide) two_std (ofL five) hsz hb5)
  clear h5 hb5
  go_wp2_with (first
   | (go_at_call 77; refine (spec_CronDescribed.calls kd s _ _ HD.out).mono ?_; rintro e w2 ⟨rfl, hb2⟩; have HB2 := Lib.hid (below_step HB.out hb2.below); have HZ2 := Lib.hid (HZ.out.below hb2.below); clear hb2)
   | (go_at_call 23; refine (HC.out _).mono ?_; rintro e w3 ⟨⟨m, v, rfl, hv0, hv1⟩, hb3⟩; have HB3 := Lib.hid (below_step HB2.out hb3); have HZ3 := Lib.hid (HZ2.out.below hb3); have hz3 := HZ3.out; have HV1 := Lib.hid hv1; clear hb3 hv1)
   | (refine wpList_store_mean rfl _ _ rfl w.heap.size CMean.zero m rfl rfl hz3 ?_; intro w4 g1 g2))
  exact bodyPost_ret (results_ct rfl _ _ _ 40 _ _ _ rfl g1 Tryz.underlying40 rfl (by rw [List.size_toArray, CMean.cells_len]; kernel_rfl)) rfl
   ⟨⟨m, v, rfl, hv0, fun h => by rw [HR.out]; exact .inl ⟨H5.out, HV1.out h⟩⟩, HB3.out.trans (g2 _ (Nat.le_refl _))⟩
theorem plain_c (o : Nat) (ho : o < 512) (h2 : spec_CronTwoOptional.f (o : Int) = some false) (s : ByteArray) (hs : s.size ≤ 4294967200) (w : World) :
  Calls Tryz.prog 23 #[.int .i64 (o : Int), .string s] w (PlainQ (PlainR (o : Int) (toL s)) w) := by
 cases hat : begins (toL s) [64] with
 | false =>
  refine (plain_c0 o ho h2 s hs hat w).mono ?_
  rintro e w' ⟨⟨m, v, rfl, hv0, hv1⟩, hb⟩
  exact ⟨⟨m, v, rfl, hv0, fun h => .inl ⟨hat, hv1 h⟩⟩, hb⟩
 | true =>
  have hbeg := begins_f s [64]
  rw [hat] at hbeg
  have HAT := Lib.hid hat
  have HBEG := Lib.hid hbeg
  have HC := Lib.hid (descriptor_c s hs)
  clear hat hbeg
  go_enter Tryz.func23, Tryz.ntmps23
  go_upto_region 1 with (refine wpList_alloc_mean rfl rfl ?_; intro g hg w1 hz hb hlt)
  subst hg
  have HB := Lib.hid hb
  have HZ := Lib.hid hz
  clear hb hz hlt
  by_cases h256 : Go.bits .and .i64 (o : Int) 256 = 0
  ·have hbb : (Go.bits .and .i64 (o : Int) 256 == 0) = true := by simpa using h256
   clear h256
   go_wp2_with (first
    | (go_at_call 41; refine (spec_cronBegins.calls s (ofL [64]) true _ HBEG.out).mono ?_; rintro e w2 ⟨rfl, hb2⟩; have HB2 := Lib.hid (below_step HB.out hb2.below); have HZ2 := Lib.hid (HZ.out.below hb2.below); have hz2 := HZ2.out; clear hb2)
    | (refine wpList_exec (.build 40 #[]) rfl rfl (.agg CMean.zero.cells.toArray) (by kernel_rfl) ?_)
    | (refine wpList_store_mean rfl _ _ rfl w.heap.size CMean.zero CMean.zero rfl rfl hz2 ?_; intro w4 g1 g2))
   exact bodyPost_ret (results_ct rfl _ _ _ 40 _ _ _ rfl g1 Tryz.underlying40 rfl (by rw [List.size_toArray, CMean.cells_len]; kernel_rfl)) rfl
    ⟨⟨CMean.zero, 0, rfl, by decide, fun h => by cases h⟩, HB2.out.trans (g2 _ (Nat.le_refl _))⟩
  ·have hbb : (Go.bits .and .i64 (o : Int) 256 == 0) = false := by simpa using h256
   have H256 := Lib.hid h256
   clear h256
   go_wp2_with (first
    | (go_at_call 41; refine (spec_cronBegins.calls s (ofL [64]) true _ HBEG.out).mono ?_; rintro e w2 ⟨rfl, hb2⟩; have HB2 := Lib.hid (below_step HB.out hb2.below); have HZ2 := Lib.hid (HZ.out.below hb2.below); clear hb2)
    | (go_at_call 42; refine (HC.out _).mono ?_; rintro e w3 ⟨⟨m, v, rfl, hv0, hv1⟩, hb3⟩; have HB3 := Lib.hid (below_step HB2.out hb3); have HZ3 := Lib.hid (HZ2.out.below hb3); have hz3 := HZ3.out; have HV1 := Lib.hid hv1; clear hb3 hv1)
    | (refine wpList_store_mean rfl _ _ rfl w.heap.size CMean.zero m rfl rfl hz3 ?_; intro w4 g1 g2))
   exact bodyPost_ret (results_ct rfl _ _ _ 40 _ _ _ rfl g1 Tryz.underlying40 rfl (by rw [List.size_toArray, CMean.cells_len]; kernel_rfl)) rfl
    ⟨⟨m, v, rfl, hv0, fun h => .inr ⟨HAT.out, H256.out, HV1.out h⟩⟩, HB3.out.trans (g2 _ (Nat.le_refl _))⟩
def tzL : Txt := [84, 90, 61]
def ctzL : Txt := [67, 82, 79, 78, 95, 84, 90, 61]
def zh (l : Txt) : Nat := if begins l tzL then 3 else if begins l ctzL then 8 else 0
theorem zoneHead_c (s : ByteArray) (w : World) :
  Calls Tryz.prog 22 #[.string s] w fun e w' => e = .returned (.int .i64 (zh (toL s) : Int)) ∧ Below w.heap.size w w' := by
 have hb0 := begins_f s tzL
 have hb1 := begins_f s ctzL
 have HB0 := Lib.hid hb0
 have HB1 := Lib.hid hb1
 clear hb0 hb1
 have hz : zh (toL s) = if begins (toL s) tzL then 3 else if begins (toL s) ctzL then 8 else 0 := rfl
 generalize begins (toL s) tzL = b0 at *
 generalize begins (toL s) ctzL = b1 at *
 have HZ := Lib.hid hz
 clear hz
 go_enter Tryz.func22, Tryz.ntmps22
 go_wp2
 go_loopw [4, 6] (fun _ iv wr => ∃ i : Nat, i ≤ 2 ∧ iv = .int .i64 (i : Int) ∧ (1 ≤ i → b0 = false) ∧ (2 ≤ i → b1 = false) ∧ Below w.heap.size w wr) (fun _ iv _ => (2 - intOf iv).toNat)
 case atStart => exact ⟨0, by decide, rfl, fun h => absurd h (by decide), fun h => absurd h (by decide), Below.refl _ _⟩
 case round =>
  obtain ⟨i, hi, rfl, h0, h1, hB⟩ := hrel
  have HB := Lib.hid hB
  clear hB
  have h012 : i = 0 ∨ i = 1 ∨ i = 2 := by omega
  rcases h012 with rfl | rfl | rfl
  ·clear h0 h1 hi
   cases b0 with
   | true =>
    go_wp2_with (first | (refine wpList_exec (.index 101 (.tmp 5) (.tmp 6)) rfl rfl (.string (ofL tzL)) (by kernel_rfl) ?_) | (go_at_call 41; refine (spec_cronBegins.calls s (ofL tzL) true _ HB0.out).mono ?_; rintro e w2 ⟨rfl, hb2⟩; have HB2 := Lib.hid (below_step HB.out hb2.below); clear hb2))
    go_ret
    exact ⟨by rw [HZ.out]; rfl, HB2.out⟩
   | false =>
    go_wp2_with (first | (refine wpList_exec (.index 101 (.tmp 5) (.tmp 6)) rfl rfl (.string (ofL tzL)) (by kernel_rfl) ?_) | (go_at_call 41; refine (spec_cronBegins.calls s (ofL tzL) false _ HB0.out).mono ?_; rintro e w2 ⟨rfl, hb2⟩; have HB2 := Lib.hid (below_step HB.out hb2.below); clear hb2))
    exact ⟨⟨1, by decide, rfl, by first | simp | (intro _; rfl), fun h => absurd h (by decide), HB2.out⟩, by simp [intOf]⟩
  ·have hb0 := h0 (by decide)
   subst hb0
   clear h0 h1 hi
   cases b1 with
   | true =>
    go_wp2_with (first | (refine wpList_exec (.index 101 (.tmp 5) (.tmp 6)) rfl rfl (.string (ofL ctzL)) (by kernel_rfl) ?_) | (go_at_call 41; refine (spec_cronBegins.calls s (ofL ctzL) true _ HB1.out).mono ?_; rintro e w2 ⟨rfl, hb2⟩; have HB2 := Lib.hid (below_step HB.out hb2.below); clear hb2))
    go_ret
    exact ⟨by rw [HZ.out]; rfl, HB2.out⟩
   | false =>
    go_wp2_with (first | (refine wpList_exec (.index 101 (.tmp 5) (.tmp 6)) rfl rfl (.string (ofL ctzL)) (by kernel_rfl) ?_) | (go_at_call 41; refine (spec_cronBegins.calls s (ofL ctzL) false _ HB1.out).mono ?_; rintro e w2 ⟨rfl, hb2⟩; have HB2 := Lib.hid (below_step HB.out hb2.below); clear hb2))
    exact ⟨⟨2, by decide, rfl, by first | simp | (intro _; rfl), by first | simp | (intro _; rfl), HB2.out⟩, by simp [intOf]⟩
  ·have hb0 := h0 (by decide)
   have hb1 := h1 (by decide)
   subst hb0 hb1
   clear h0 h1 hi
   go_wp2
   go_ret
   exact ⟨by rw [HZ.out]; rfl, HB.out⟩
def hasSp (l : Txt) : Bool := l.any fun c => c.toNat == 32
theorem hasSp_at (s : ByteArray) (i : Nat) (h : i < s.size) : hasSp ((toL s).drop i) = ((s[i].toNat == 32) || hasSp ((toL s).drop (i + 1))) := by
 rw [byte_at s i h]; rfl
theorem noAnswer_c (s : ByteArray) (hs : s.size ≤ 4294967296) (w : World) :
  Calls Tryz.prog 24 #[.string s] w fun e w' => e = .returned (.bool (!hasSp (toL s) && decide (0 < zh (toL s)))) ∧ Below w.heap.size w w' := by
 have HZ := Lib.hid (zoneHead_c s)
 have HA := Lib.hid (hasSp_at s)
 go_enter Tryz.func24, Tryz.ntmps24
 go_wp2
 go_loopw [3, 6] (fun _ iv wr => ∃ i : Nat, i ≤ s.size ∧ iv = .int .i64 (i : Int) ∧ hasSp (toL s) = hasSp ((toL s).drop i) ∧ Below w.heap.size w wr) (fun _ iv _ => (s.size - (intOf iv).toNat))
 case atStart => exact ⟨0, by omega, rfl, rfl, Below.refl _ _⟩
 case round =>
  obtain ⟨i, hi, rfl, h0, hB⟩ := hrel
  have HB := Lib.hid hB
  have H0 := Lib.hid h0
  clear hB h0
  by_cases hlt : i < s.size
  ·have hsp := HA.out i hlt
   have HS := Lib.hid hsp
   clear hsp
   cases hc : (s[i].toNat == 32) with
   | true =>
    have hc2 : ((s[i].toNat : Int) == 32) = true := by simp at hc ⊢; omega
    have HS2 := Lib.hid (HS.out.trans (by rw [hc, Bool.true_or]))
    clear hc
    go_wp2
    go_ret
    exact ⟨by rw [H0.out.trans HS2.out]; rfl, HB.out⟩
   | false =>
    have hc2 : ((s[i].toNat : Int) == 32) = false := by simp at hc ⊢; omega
    have HS2 := Lib.hid (HS.out.trans (by rw [hc, Bool.false_or]))
    clear hc
    go_wp2
    exact ⟨⟨i + 1, by omega, by simp, H0.out.trans HS2.out, HB.out⟩, by simp [intOf]; omega⟩
  ·have hi2 : i = s.size := by omega
   have hno : hasSp (toL s) = false := by rw [H0.out, hi2, List.drop_eq_nil_of_le (by rw [toL_len]; exact Nat.le_refl _)]; rfl
   have HNO := Lib.hid hno
   clear hi2 hno
   go_wp2_with (go_at_call 22; refine (HZ.out _).mono ?_; rintro e w2 ⟨rfl, hb2⟩; have HB2 := Lib.hid (below_step HB.out hb2); clear hb2)
   go_ret
   exact ⟨by rw [HNO.out]; simp, HB2.out⟩
def ParseR (o : Int) (l : Txt) (m : CMean) : Prop :=
 (zh l = 0 ∧ l ≠ [] ∧ PlainR o l m) ∨
 (0 < zh l ∧ ∃ (name tail : Txt) (u : Bool) (m0 : CMean), l.drop (zh l) = name ++ 32 :: tail ∧ (∀ c ∈ name, c.toNat ≠ 32) ∧ ZoneR name u ∧ foreign (trimL (32 :: tail)) = false ∧ PlainR o (trimL (32 :: tail)) m0 ∧ m = ⟨m0.every, m0.delay, m0.F, u && !m0.every⟩)
theorem hasSp_append (a b : Txt) : hasSp (a ++ b) = (hasSp a || hasSp b) := by unfold hasSp; rw [List.any_append]
theorem begins_take {l t : Txt} (h : begins l t = true) : l.take t.length = t ∧ t.length ≤ l.length := by
 unfold begins at h
 rw [Bool.and_eq_true, decide_eq_true_eq] at h
 exact ⟨by simpa using h.2, h.1⟩
theorem zh_take {l : Txt} (h : 0 < zh l) : hasSp (l.take (zh l)) = false ∧ zh l ≤ l.length := by
 unfold zh at h ⊢
 split
 ·rename_i h1
  obtain ⟨h2, h3⟩ := begins_take h1
  rw [show tzL.length = 3 from rfl] at h2 h3
  rw [h2]; exact ⟨rfl, h3⟩
 ·rename_i h1
  rw [if_neg h1] at h
  split
  ·rename_i h4
   obtain ⟨h2, h3⟩ := begins_take h4
   rw [show ctzL.length = 8 from rfl] at h2 h3
   rw [h2]; exact ⟨rfl, h3⟩
  ·rename_i h4; rw [if_neg h4] at h; omega
theorem first_sp : ∀ l : Txt, hasSp l = true → ∃ name tail, l = name ++ 32 :: tail ∧ ∀ c ∈ name, c.toNat ≠ 32 := by
 intro l
 induction l with
 | nil => intro h; cases h
 | cons c l ih =>
  intro h
  by_cases hc : c = 32
  ·subst hc; exact ⟨[], l, rfl, fun c h => by simp at h⟩
  ·have hc2 : c.toNat ≠ 32 := fun h2 => hc (UInt8.toNat_inj.1 h2)
   have : hasSp l = true := by
    unfold hasSp at h ⊢
    rw [List.any_cons] at h
    rw [show (c.toNat == 32) = false by simpa using hc2, Bool.false_or] at h
    exact h
   obtain ⟨name, tail, rfl, hn⟩ := ih this
   refine ⟨c :: name, tail, rfl, fun x hx => ?_⟩
   rcases List.mem_cons.1 hx with rfl | hx
   ·exact hc2
   ·exact hn x hx
theorem dropW_len (P : UInt8 → Bool) : ∀ l : Txt, (l.dropWhile P).length ≤ l.length := by
 intro l
 induction l with
 | nil => simp
 | cons c l ih => rw [List.dropWhile_cons]; split <;> simp <;> omega
theorem trimL_len (l : Txt) : (trimL l).length ≤ l.length := by
 unfold trimL trimR
 rw [List.length_reverse]
 have h1 := dropW_len blank (l.dropWhile blank).reverse
 have h2 := dropW_len blank l
 rw [List.length_reverse] at h1
 omega
theorem zone_split {l : Txt} (h : 0 < zh l) (hs : hasSp l = true) : ∃ name tail, l.drop (zh l) = name ++ 32 :: tail ∧ (∀ c ∈ name, c.toNat ≠ 32) := by
 obtain ⟨h1, h2⟩ := zh_take h
 refine first_sp _ ?_
 rw [← List.take_append_drop (zh l) l, hasSp_append, h1, Bool.false_or] at hs
 exact hs
theorem mcells_setutc (m : CMean) (b : Bool) : m.cells.toArray.setIfInBounds 386 (.bool b) = (CMean.mk m.every m.delay m.F b).cells.toArray := by
 rw [List.setIfInBounds_toArray]
 congr 1
theorem MBlk.setUtc {w : World} {b : Nat} {m : CMean} (h : MBlk w b m) (v : Bool) : MBlk (w.setCell ⟨b, 386, none⟩ (.bool v)) b ⟨m.every, m.delay, m.F, v⟩ :=
 blk_put h 386 _ (mcells_setutc m v)
theorem MBlk.every {w : World} {b : Nat} {m : CMean} (h : MBlk w b m) : w.cell? ⟨b, 0, none⟩ = some (.bool m.every) := blk_cell h 0
theorem MBlk.utcCell {w : World} {b : Nat} {m : CMean} (h : MBlk w b m) : w.cell? ⟨b, 386, none⟩ = some (.bool m.utc) := by
 rw [blk_cell h 386, List.getElem?_toArray]; exact mcells_utc _ _ _ _
theorem MBlk.far {w : World} {b : Nat} {m : CMean} (h : MBlk w b m) {p : Addr} (hp : b ≠ p.block) (v : Value) : MBlk (w.setCell p v) b m := blk_far h hp v
theorem parse_c (o : Nat) (ho : o < 512) (h2 : spec_CronTwoOptional.f (o : Int) = some false) (s : ByteArray) (hs : s.size ≤ 4294967200) (w : World) :
  Calls Tryz.prog 10 #[.int .i64 (o : Int), .string s] w (PlainQ (ParseR (o : Int) (toL s)) w) := by
 have hR : ∀ m, ParseR (o : Int) (toL s) m = ((zh (toL s) = 0 ∧ toL s ≠ [] ∧ PlainR (o : Int) (toL s) m) ∨
  (0 < zh (toL s) ∧ ∃ (name tail : Txt) (u : Bool) (m0 : CMean), (toL s).drop (zh (toL s)) = name ++ 32 :: tail ∧ (∀ c ∈ name, c.toNat ≠ 32) ∧ ZoneR name u ∧ foreign (trimL (32 :: tail)) = false ∧ PlainR (o : Int) (trimL (32 :: tail)) m0 ∧ m = ⟨m0.every, m0.delay, m0.F, u && !m0.every⟩)) := fun _ => rfl
 have HR := Lib.hid hR
 have HZH := Lib.hid (zoneHead_c s)
 have HNA := Lib.hid (noAnswer_c s (by omega))
 have HPL := Lib.hid (fun (t : ByteArray) (ht : t.size ≤ 4294967200) => plain_c o ho h2 t ht)
 have hsplit := fun (h : 0 < zh (toL s)) (h' : hasSp (toL s) = true) => zone_split h h'
 have htk := fun (h : 0 < zh (toL s)) => (zh_take h).2
 have HSPL := Lib.hid hsplit
 have HTK := Lib.hid htk
 have HPS := Lib.hid (show ∀ b, toL s = [] → (s.toList == ([] : List UInt8)) = b → b = true from fun b h h3 => by rw [← h3, toList_toL, h]; rfl)
 clear hR hsplit htk
 generalize hz : zh (toL s) = h at *
 generalize hsp : hasSp (toL s) = sp at *
 clear hz hsp
 go_enter Tryz.func10, Tryz.ntmps10
 go_upto_region 1 with (refine wpList_alloc_mean rfl rfl ?_; intro g hg w1 hz hb hlt)
 subst hg
 have HB := Lib.hid hb
 have HZ := Lib.hid hz
 clear hb hz hlt
 by_cases h0 : h = 0
 ·subst h0
  cases hne : (s.toList == ([] : List UInt8)) with
  | true =>
   go_wp2_with (first
    | (go_at_call 22; refine (HZH.out _).mono ?_; rintro e w2 ⟨rfl, hb2⟩; have HB2 := Lib.hid (below_step HB.out hb2); have HZ2 := Lib.hid (HZ.out.below hb2); have hz2 := HZ2.out; clear hb2)
    | (refine wpList_exec (.build 40 #[]) rfl rfl (.agg CMean.zero.cells.toArray) (by kernel_rfl) ?_)
    | (refine wpList_store_mean rfl _ _ rfl w.heap.size CMean.zero CMean.zero rfl rfl hz2 ?_; intro w4 g1 g2))
   exact bodyPost_ret (results_ct rfl _ _ _ 40 _ _ _ rfl g1 Tryz.underlying40 rfl (by rw [List.size_toArray, CMean.cells_len]; kernel_rfl)) rfl
    ⟨⟨CMean.zero, 0, rfl, by decide, fun h => by cases h⟩, HB2.out.trans (g2 _ (Nat.le_refl _))⟩
  | false =>
   have hnil : toL s ≠ [] := fun h => by have := HPS.out _ h hne; cases this
   have HNIL := Lib.hid hnil
   clear hnil
   go_wp2_with (first
    | (go_at_call 22; refine (HZH.out _).mono ?_; rintro e w2 ⟨rfl, hb2⟩; have HB2 := Lib.hid (below_step HB.out hb2); have HZ2 := Lib.hid (HZ.out.below hb2); clear hb2)
    | (go_at_call 23; refine (HPL.out s hs _).mono ?_; rintro e w3 ⟨⟨m, v, rfl, hv0, hv1⟩, hb3⟩; have HB3 := Lib.hid (below_step HB2.out hb3); have HZ3 := Lib.hid (HZ2.out.below hb3); have hz3 := HZ3.out; have HV1 := Lib.hid hv1; clear hb3 hv1)
    | (refine wpList_store_mean rfl _ _ rfl w.heap.size CMean.zero m rfl rfl hz3 ?_; intro w4 g1 g2))
   exact bodyPost_ret (results_ct rfl _ _ _ 40 _ _ _ rfl g1 Tryz.underlying40 rfl (by rw [List.size_toArray, CMean.cells_len]; kernel_rfl)) rfl
    ⟨⟨m, v, rfl, hv0, fun h => by rw [HR.out]; exact .inl ⟨by first | rfl | trivial, HNIL.out, HV1.out h⟩⟩, HB3.out.trans (g2 _ (Nat.le_refl _))⟩
 ·have hpos : 0 < h := by omega
  have hhle := HTK.out hpos
  rw [toL_len] at hhle
  have hh0 : ((h : Int) == 0) = false := by simp; omega
  have hd0 : decide (0 < h) = true := by simpa using hpos
  cases sp with
  | false =>
   go_wp2_with (first
    | (go_at_call 22; refine (HZH.out _).mono ?_; rintro e w2 ⟨rfl, hb2⟩; have HB2 := Lib.hid (below_step HB.out hb2); have HZ2 := Lib.hid (HZ.out.below hb2); clear hb2)
    | (go_at_call 24; refine (HNA.out _).mono ?_; rw [hd0]; rintro e w3 ⟨rfl, hb3⟩; have HB3 := Lib.hid (below_step HB2.out hb3); have HZ3 := Lib.hid (HZ2.out.below hb3); have hz3 := HZ3.out; clear hb3)
    | (refine wpList_exec (.build 40 #[]) rfl rfl (.agg CMean.zero.cells.toArray) (by kernel_rfl) ?_)
    | (refine wpList_store_mean rfl _ _ rfl w.heap.size CMean.zero CMean.zero rfl rfl hz3 ?_; intro w4 g1 g2))
   exact bodyPost_ret (results_ct rfl _ _ _ 40 _ _ _ rfl g1 Tryz.underlying40 rfl (by rw [List.size_toArray, CMean.cells_len]; kernel_rfl)) rfl
    ⟨⟨CMean.zero, 2, rfl, by decide, fun h => by cases h⟩, HB3.out.trans (g2 _ (Nat.le_refl _))⟩
  | true =>
   obtain ⟨name, tail, hnt, hname⟩ := HSPL.out hpos rfl
   have hlen : h + name.length + tail.length + 1 = s.size := by
    have := congrArg List.length hnt
    rw [List.length_drop, toL_len, List.length_append, List.length_cons] at this
    omega
   have hsl1 : s.extract h (h + name.length) = ofL name := by
    rw [extract_ofL, List.drop_take, hnt, Nat.add_sub_cancel_left, List.take_left]
   have hdr2 : (toL s).drop (h + name.length) = 32 :: tail := by rw [← List.drop_drop, hnt, List.drop_left]
   have hsl2 : s.extract (h + name.length) s.size = ofL (32 :: tail) := by
    rw [extract_ofL, List.take_of_length_le (by rw [toL_len]; exact Nat.le_refl _), hdr2]
   have hat : ∀ n, h ≤ n → n < h + name.length → ∃ hn : n < s.size, (s[n]'hn).toNat ≠ 32 := fun n h1 h2 => by
    have hn : n < s.size := by omega
    refine ⟨hn, ?_⟩
    have h3 : ((toL s).drop h)[n - h]? = some (s[n]'hn) := by
     rw [List.getElem?_drop, show h + (n - h) = n by omega, List.getElem?_eq_getElem (by rw [toL_len]; exact hn)]; rfl
    rw [hnt, List.getElem?_append_left (by omega)] at h3
    exact hname _ (List.mem_of_getElem? h3)
   have hpend : ∃ hn : h + name.length < s.size, (s[h + name.length]'hn).toNat = 32 := by
    have hn : h + name.length < s.size := by omega
    refine ⟨hn, ?_⟩
    have := byte_at s _ hn
    rw [hdr2] at this
    injection this with h1 h2
    rw [← h1]; rfl
   have hple : h + name.length < s.size := by omega
   have hhp : h ≤ h + name.length := by omega
   have htl : (32 :: tail : Txt).length ≤ s.size := by simp; omega
   obtain ⟨_, hp32⟩ := hpend
   generalize h + name.length = p at *
   have HAT := Lib.hid hat
   have HSL1 := Lib.hid hsl1
   have HSL2 := Lib.hid hsl2
   have HNT := Lib.hid hnt
   have HNAME := Lib.hid hname
   have HP32 := Lib.hid hp32
   clear hat hsl1 hsl2 hnt hname hlen hdr2 hp32
   go_upto_region 8 with (first
    | (go_at_call 22; refine (HZH.out _).mono ?_; rintro e w2 ⟨rfl, hb2⟩; have HB2 := Lib.hid (below_step HB.out hb2); have HZ2 := Lib.hid (HZ.out.below hb2); clear hb2)
    | (go_at_call 24; refine (HNA.out _).mono ?_; rw [hd0]; rintro e w3 ⟨rfl, hb3⟩; have HB3 := Lib.hid (below_step HB2.out hb3); have HZ3 := Lib.hid (HZ2.out.below hb3); clear hb3))
   go_wp2
   go_loop [7] (fun iv => ∃ n : Nat, h ≤ n ∧ n ≤ p ∧ iv = .int .i64 (n : Int)) (fun iv => (p - (intOf iv).toNat))
   case atStart => exact ⟨h, Nat.le_refl _, by omega, rfl⟩
   case round =>
    obtain ⟨n, hn1, hn2, rfl⟩ := hrel
    by_cases hlt : n < p
    ·obtain ⟨hns, hc⟩ := HAT.out n hn1 hlt
     have hc1 : ((s[n].toNat : Int) == 32) = false := by simp; omega
     have hc2 : ((s[n].toNat : Int) != 32) = true := by simp; omega
     clear hc
     go_wp2
     exact ⟨⟨n + 1, by omega, by omega, by simp⟩, by simp [intOf]; omega⟩
    ·obtain rfl : n = p := by omega
     have hc1 : ((s[n].toNat : Int) == 32) = true := by rw [HP32.out]; rfl
     have hc2 : ((s[n].toNat : Int) != 32) = false := by rw [HP32.out]; rfl
     clear hlt
     obtain ⟨u, v, hzn, hv0, hv1⟩ := zoneName_f (s.extract h n) (by rw [ByteArray.size_extract]; omega)
     rw [HSL1.out, toL_ofL] at hv1
     obtain ⟨kz, hkz⟩ := hzn.rounds
     have htr := trim_f (s.extract n s.size) (by rw [ByteArray.size_extract]; omega)
     rw [congrArg toL HSL2.out, toL_ofL] at htr
     have hrl := trimL_len (32 :: tail)
     obtain ⟨kt, hkt⟩ := htr.rounds
     obtain ⟨kf, hkf⟩ := (foreign_f (ofL (trimL (32 :: tail))) (by rw [ofL_size]; omega)).rounds
     rw [toL_ofL] at hkf
     have hrs : (ofL (trimL (32 :: tail))).size ≤ 4294967200 := by rw [ofL_size]; omega
     have HP := Lib.hid (HPL.out _ hrs)
     have HKZ := Lib.hid hkz
     have HKT := Lib.hid hkt
     have HKF := Lib.hid hkf
     have HV1 := Lib.hid hv1
     have hFIN : ∀ m0 : CMean, v = 1 → foreign (trimL (32 :: tail)) = false → PlainR (o : Int) (trimL (32 :: tail)) m0 → ParseR (o : Int) (toL s) ⟨m0.every, m0.delay, m0.F, u && !m0.every⟩ := fun m0 a1 a2 a3 => by
      rw [HR.out]; exact .inr ⟨hpos, name, tail, u, m0, HNT.out, HNAME.out, HV1.out a1, a2, a3, rfl⟩
     have HFIN := Lib.hid hFIN
     clear hkz hkt hkf hv1 hrl hrs hFIN HR HV1 HNT HNAME HSL1 HSL2 HAT HSPL
     generalize trimL (32 :: tail) = rt at *
     cases hfo : foreign rt with
     | true =>
      obtain ⟨wv, hwv, hwv0, hwv1⟩ := worse_f v 2 hv0 (by decide)
      rw [hfo] at HKF
      have HWV := Lib.hid hwv
      clear hwv hfo
      go_wp2_with (first
       | (go_at_call 25; refine (spec_CronZoneName.calls kz (s.extract h n) u v _ HKZ.out).mono ?_; rintro e w4 ⟨rfl, hb4⟩; have HB4 := Lib.hid (below_step HB3.out hb4.below); have HZ4 := Lib.hid (HZ3.out.below hb4.below); clear hb4)
       | (go_at_call 26; refine (spec_CronTrim.calls kt (s.extract n s.size) _ _ HKT.out).mono ?_; rintro e w5 ⟨rfl, hb5⟩; have HB5 := Lib.hid (below_step HB4.out hb5.below); have HZ5 := Lib.hid (HZ4.out.below hb5.below); clear hb5)
       | (go_at_call 27; refine (spec_cronForeign.calls kf (ofL rt) true _ HKF.out).mono ?_; rintro e w6 ⟨rfl, hb6⟩; have HB6 := Lib.hid (below_step HB5.out hb6.below); have HZ6 := Lib.hid (HZ5.out.below hb6.below); clear hb6)
       | (go_at_call 28; refine (spec_worse.calls v 2 wv _ HWV.out).mono ?_; rintro e w7 ⟨rfl, hb7⟩; have HB7 := Lib.hid (below_step HB6.out hb7); have HZ7 := Lib.hid (HZ6.out.below hb7); have hz7 := HZ7.out; clear hb7)
       | (refine wpList_exec (.build 40 #[]) rfl rfl (.agg CMean.zero.cells.toArray) (by kernel_rfl) ?_)
       | (refine wpList_store_mean rfl _ _ rfl w.heap.size CMean.zero CMean.zero rfl rfl hz7 ?_; intro w8 g1 g2))
      exact bodyPost_ret (results_ct rfl _ _ _ 40 _ _ _ rfl g1 Tryz.underlying40 rfl (by rw [List.size_toArray, CMean.cells_len]; kernel_rfl)) rfl
       ⟨⟨CMean.zero, wv, rfl, hwv0, fun h => absurd (hwv1 h).2 (by decide)⟩, HB7.out.trans (g2 _ (Nat.le_refl _))⟩
     | false =>
      rw [hfo] at HKF
      have HFO := Lib.hid hfo
      clear hfo
      go_upto_region 16 with (first
       | (go_at_call 25; refine (spec_CronZoneName.calls kz (s.extract h n) u v _ HKZ.out).mono ?_; rintro e w4 ⟨rfl, hb4⟩; have HB4 := Lib.hid (below_step HB3.out hb4.below); have HZ4 := Lib.hid (HZ3.out.below hb4.below); clear hb4)
       | (go_at_call 26; refine (spec_CronTrim.calls kt (s.extract n s.size) _ _ HKT.out).mono ?_; rintro e w5 ⟨rfl, hb5⟩; have HB5 := Lib.hid (below_step HB4.out hb5.below); have HZ5 := Lib.hid (HZ4.out.below hb5.below); clear hb5)
       | (go_at_call 27; refine (spec_cronForeign.calls kf (ofL rt) false _ HKF.out).mono ?_; rintro e w6 ⟨rfl, hb6⟩; have HB6 := Lib.hid (below_step HB5.out hb6.below); have HZ6 := Lib.hid (HZ5.out.below hb6.below); clear hb6)
       | (go_at_call 23; refine (HP.out _).mono ?_; rintro e w7 ⟨⟨m, vp, rfl, hvp0, hvp1⟩, hb7⟩; rw [toL_ofL] at hvp1; have HB7 := Lib.hid (below_step HB6.out hb7); have HZ7 := Lib.hid (HZ6.out.below hb7); have HVP := Lib.hid hvp1; clear hb7 hvp1)
       | (refine wpList_alloc_mean rfl rfl ?_; intro g11 hg11 w8 hz11 hb8 hlt8; have HB8 := Lib.hid hb8; have HG11 := Lib.hid hg11; clear hb8 hg11 hlt8)
       | (refine wpList_store_mean rfl _ _ rfl g11 CMean.zero m rfl rfl hz11 ?_; intro w9 hm9 hb9; have HW9 := Lib.hid (HB8.out.trans (hb9 _ (by rw [HG11.out]; exact Nat.le_refl _))); have HB9 := Lib.hid (below_step HB7.out HW9.out); have HZ9 := Lib.hid (HZ7.out.below HW9.out); have HM9 := Lib.hid hm9; clear hb9 hz11 hm9))
      obtain ⟨wv, hwv, hwv0, hwv1⟩ := worse_f v vp hv0 hvp0
      have HWV := Lib.hid hwv
      have HWV1 := Lib.hid hwv1
      have hgne : w.heap.size ≠ g11 := by have := HG11.out; have := HB7.out.size; have := HZ7.out.lt; omega
      have hgle : w.heap.size ≤ g11 := by have := HG11.out; have := HB7.out.size; omega
      clear hwv hwv1
      by_cases hw1 : wv = 1
      ·subst hw1
       obtain ⟨hv1', hvp1'⟩ := HWV1.out rfl
       have HPR := Lib.hid (HFIN.out m hv1' HFO.out (HVP.out hvp1'))
       clear HFIN HVP HWV1 hv1' hvp1'
       cases u with
       | true =>
        go_upto_region 20 with (go_at_call 28; refine (spec_worse.calls v vp 1 _ HWV.out).mono ?_; rintro e w10 ⟨rfl, hb10⟩; have HB10 := Lib.hid (below_step HB9.out hb10); have HZ10 := Lib.hid (HZ9.out.below hb10); have HM10 := Lib.hid (HM9.out.below hb10); have hme := HM10.out.every; have hmu := HM10.out.utcCell; have hmf := blk_frozen HM10.out 386; clear hb10)
        have hM := HM10.out.setUtc (!m.every)
        have hZ := HZ10.out.far (p := ⟨g11, 386, none⟩) hgne (.bool (!m.every))
        have hB := HB10.out.setCell (p := ⟨g11, 386, none⟩) hgle (.bool (!m.every))
        have hr := hM.range
        have HBB := Lib.hid hB
        clear hB hM hme hmu hmf
        generalize w10.setCell ⟨g11, 386, none⟩ (.bool (!m.every)) = W2 at *
        go_wp2_with (first
         | (refine wpList_load_mid rfl 40 (.tmp 11) rfl g11 0 rfl (CMean.mk m.every m.delay m.F (!m.every)).cells _ hr Tryz.underlying40 rfl (by rw [CMean.cells_len]; kernel_rfl) ?_)
         | (refine wpList_store_mean rfl _ _ rfl w.heap.size CMean.zero (CMean.mk m.every m.delay m.F (!m.every)) rfl rfl hZ ?_; intro w11 g1 g2))
        exact bodyPost_ret (results_ct rfl _ _ _ 40 _ _ _ rfl g1 Tryz.underlying40 rfl (by rw [List.size_toArray, CMean.cells_len]; kernel_rfl)) rfl
         ⟨⟨CMean.mk m.every m.delay m.F (!m.every), 1, rfl, by decide, fun _ => HPR.out⟩, HBB.out.trans (g2 _ (Nat.le_refl _))⟩
       | false =>
        go_upto_region 20 with (go_at_call 28; refine (spec_worse.calls v vp 1 _ HWV.out).mono ?_; rintro e w10 ⟨rfl, hb10⟩; have HB10 := Lib.hid (below_step HB9.out hb10); have HZ10 := Lib.hid (HZ9.out.below hb10); have HM10 := Lib.hid (HM9.out.below hb10); have hmu := HM10.out.utcCell; have hmf := blk_frozen HM10.out 386; clear hb10)
        have hM := HM10.out.setUtc false
        have hZ := HZ10.out.far (p := ⟨g11, 386, none⟩) hgne (.bool false)
        have hB := HB10.out.setCell (p := ⟨g11, 386, none⟩) hgle (.bool false)
        have hr := hM.range
        have HBB := Lib.hid hB
        clear hB hM hmu hmf
        generalize w10.setCell ⟨g11, 386, none⟩ (.bool false) = W2 at *
        go_wp2_with (first
         | (refine wpList_load_mid rfl 40 (.tmp 11) rfl g11 0 rfl (CMean.mk m.every m.delay m.F false).cells _ hr Tryz.underlying40 rfl (by rw [CMean.cells_len]; kernel_rfl) ?_)
         | (refine wpList_store_mean rfl _ _ rfl w.heap.size CMean.zero (CMean.mk m.every m.delay m.F false) rfl rfl hZ ?_; intro w11 g1 g2))
        exact bodyPost_ret (results_ct rfl _ _ _ 40 _ _ _ rfl g1 Tryz.underlying40 rfl (by rw [List.size_toArray, CMean.cells_len]; kernel_rfl)) rfl
         ⟨⟨CMean.mk m.every m.delay m.F false, 1, rfl, by decide, fun _ => HPR.out⟩, HBB.out.trans (g2 _ (Nat.le_refl _))⟩
      ·have hwb : (wv != 1) = true := by simpa using hw1
       go_wp2_with (first
        | (go_at_call 28; refine (spec_worse.calls v vp wv _ HWV.out).mono ?_; rintro e w10 ⟨rfl, hb10⟩; have HB10 := Lib.hid (below_step HB9.out hb10); have HZ10 := Lib.hid (HZ9.out.below hb10); have hz10 := HZ10.out; clear hb10)
        | (refine wpList_exec (.build 40 #[]) rfl rfl (.agg CMean.zero.cells.toArray) (by kernel_rfl) ?_)
        | (refine wpList_store_mean rfl _ _ rfl w.heap.size CMean.zero CMean.zero rfl rfl hz10 ?_; intro w11 g1 g2))
       exact bodyPost_ret (results_ct rfl _ _ _ 40 _ _ _ rfl g1 Tryz.underlying40 rfl (by rw [List.size_toArray, CMean.cells_len]; kernel_rfl)) rfl
        ⟨⟨CMean.zero, wv, rfl, hwv0, fun h => absurd h hw1⟩, HB10.out.trans (g2 _ (Nat.le_refl _))⟩
end Go.Proofs.YtcjdideliifkhaaGreatDoor
