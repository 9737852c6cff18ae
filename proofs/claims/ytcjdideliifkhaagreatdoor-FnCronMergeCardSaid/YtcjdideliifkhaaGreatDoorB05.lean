import Derived.Test.YtcjdideliifkhaaGreatDoorB03
set_option maxRecDepth 100000
set_option maxHeartbeats 16000000
namespace Go.Proofs.YtcjdideliifkhaaGreatDoor.PFnCronTextAfterAnywhere
open Go.RowKit Go.Proofs.YtcjdideliifkhaaGreatDoorW.PrintWords Go.Proofs.YtcjdideliifkhaaGreatDoorW.PrintLast Go.Proofs.YtcjdideliifkhaaGreatDoorW.PrintMore
attribute [local go_sem] max2_int min2_int max_two min_two max_three min_three max_four min_four
set_option linter.unusedVariables false
set_option linter.unusedSimpArgs false
def spec_cronUnit.j0 : Nat → ByteArray → Bool → Option (Int × Int)
 | 0, _, _ => none
 | k + 1, x4, x7 => if x7 = true then (some (1000, 3)) else (if x4.toList = ([109, 115] : List UInt8) then (some (1000000, 6)) else (if x4.toList = ([115] : List UInt8) then (some (1000000000, 9)) else (if x4.toList = ([109] : List UInt8) then (some (60000000000, 10)) else (if x4.toList = ([104] : List UInt8) then (some (3600000000000, 11)) else (some (0, 0))))))
def spec_cronUnit.f (k : Nat) (a0 : ByteArray) : Option (Int × Int) := if a0.toList = ([110, 115] : List UInt8) then (some (1, 0)) else (if a0.toList = ([117, 115] : List UInt8) then (spec_cronUnit.j0 k a0 (a0.toList == ([117, 115] : List UInt8))) else (if a0.toList = ([194, 181, 115] : List UInt8) then (spec_cronUnit.j0 k a0 (a0.toList == ([194, 181, 115] : List UInt8))) else (spec_cronUnit.j0 k a0 (a0.toList == ([206, 188, 115] : List UInt8)))))
theorem spec_cronUnit.calls (k : Nat) (a0 : ByteArray) (r1 : Int) (r2 : Int) (w : World) (h : spec_cronUnit.f k a0 = some (r1, r2)) :
  Calls Tryz.prog 142 #[.string a0] w fun e w' => e = .returned (.tuple #[.int .i64 r1, .int .i64 r2]) ∧ Drawn0 w w' := by
 have H : (if a0.toList = ([110, 115] : List UInt8) then (some (1, 0)) else (if a0.toList = ([117, 115] : List UInt8) then (spec_cronUnit.j0 k a0 (a0.toList == ([117, 115] : List UInt8))) else (if a0.toList = ([194, 181, 115] : List UInt8) then (spec_cronUnit.j0 k a0 (a0.toList == ([194, 181, 115] : List UInt8))) else (spec_cronUnit.j0 k a0 (a0.toList == ([206, 188, 115] : List UInt8)))))) = some (r1, r2) := h
 clear h
 by_cases c2 : a0.toList = ([110, 115] : List UInt8)
 ·rw [if_pos c2] at H
  have c2b0 : (a0.toList == ([110, 115] : List UInt8)) = true := beq_iff_eq.mpr c2
  simp only [Option.some.injEq, Prod.mk.injEq] at H
  obtain ⟨rfl, rfl⟩ := H
  go_enter Tryz.func142, Tryz.ntmps142
  go_wp2
  go_ret2
  exact ⟨by first | rfl | simp [*], by repeat (first | exact Drawn0.refl _ | apply Drawn0.step)⟩
 ·rw [if_neg c2] at H
  have c2b0 : (a0.toList == ([110, 115] : List UInt8)) = false := beq_eq_false_iff_ne.mpr c2
  have HC3 := Aside0.mk H
  clear H
  go_enter Tryz.func142, Tryz.ntmps142
  go_upto_if 7 with (fail)
  go_cut [7] (fun v7 wc => ∃ (kq : Nat) (x7_2 : Bool), v7 = .bool x7_2 ∧ Aside0 (spec_cronUnit.j0 kq a0 x7_2 = some (r1, r2)) ∧ Aside0 (kq ≤ k) ∧ Drawn0 w wc)
  case first =>
   have H := HC3.out
   clear HC3
   by_cases c4 : a0.toList = ([117, 115] : List UInt8)
   ·rw [if_pos c4] at H
    have c4b0 : (a0.toList == ([117, 115] : List UInt8)) = true := beq_iff_eq.mpr c4
    (first | rw [c4b0] | (simp only [i64_w, i32_w]; rw [c4b0]) | skip)
    have H' := Aside0.mk H
    clear H
    go_wp2
    go_meet
    case rel => exact ⟨_, ((a0.toList == ([117, 115] : List UInt8))), (by first | rfl | simp [*]), H', ⟨by first | omega | exact Nat.le_refl _⟩, by repeat (first | exact Drawn0.refl _ | apply Drawn0.step)⟩
   ·rw [if_neg c4] at H
    have c4b0 : (a0.toList == ([117, 115] : List UInt8)) = false := beq_eq_false_iff_ne.mpr c4
    (first | rw [c4b0] | (simp only [i64_w, i32_w]; rw [c4b0]) | skip)
    by_cases c5 : a0.toList = ([194, 181, 115] : List UInt8)
    ·rw [if_pos c5] at H
     have c5b0 : (a0.toList == ([194, 181, 115] : List UInt8)) = true := beq_iff_eq.mpr c5
     have H' := Aside0.mk H
     clear H
     go_wp2
     go_meet
     case rel => exact ⟨_, ((a0.toList == ([194, 181, 115] : List UInt8))), (by first | rfl | simp [*]), H', ⟨by first | omega | exact Nat.le_refl _⟩, by repeat (first | exact Drawn0.refl _ | apply Drawn0.step)⟩
    ·rw [if_neg c5] at H
     have c5b0 : (a0.toList == ([194, 181, 115] : List UInt8)) = false := beq_eq_false_iff_ne.mpr c5
     have H' := Aside0.mk H
     clear H
     go_wp2
     go_meet
     case rel => exact ⟨_, ((a0.toList == ([206, 188, 115] : List UInt8))), (by first | rfl | simp [*]), H', ⟨by first | omega | exact Nat.le_refl _⟩, by repeat (first | exact Drawn0.refl _ | apply Drawn0.step)⟩
  case rest =>
   clear HC3
   obtain ⟨kq, x7_2, rfl, HA, HJ2, ⟨mc2, rfl⟩⟩ := hcut
   cases kq with
   | zero => exact absurd HA.out (by simp [spec_cronUnit.j0])
   | succ kj2 =>
    have H := HA.out
    clear HA
    simp only [spec_cronUnit.j0] at H
    by_cases c6 : x7_2 = true
    ·subst c6
     have H1 : (some (1000, 3)) = some (r1, r2) := by rw [if_pos rfl] at H; exact H
     clear H
     have H := H1
     clear H1
     simp only [Option.some.injEq, Prod.mk.injEq] at H
     obtain ⟨rfl, rfl⟩ := H
     go_wp2
     go_ret2
     exact ⟨by first | rfl | simp [*], by repeat (first | exact Drawn0.refl _ | apply Drawn0.step)⟩
    ·replace c6 := Bool.eq_false_iff.mpr c6
     subst c6
     have H1 : (if a0.toList = ([109, 115] : List UInt8) then (some (1000000, 6)) else (if a0.toList = ([115] : List UInt8) then (some (1000000000, 9)) else (if a0.toList = ([109] : List UInt8) then (some (60000000000, 10)) else (if a0.toList = ([104] : List UInt8) then (some (3600000000000, 11)) else (some (0, 0)))))) = some (r1, r2) := by rw [if_neg (show ¬ (false = true) by decide)] at H; exact H
     clear H
     have H := H1
     clear H1
     by_cases c7 : a0.toList = ([109, 115] : List UInt8)
     ·rw [if_pos c7] at H
      have c7b0 : (a0.toList == ([109, 115] : List UInt8)) = true := beq_iff_eq.mpr c7
      simp only [Option.some.injEq, Prod.mk.injEq] at H
      obtain ⟨rfl, rfl⟩ := H
      go_wp2
      go_ret2
      exact ⟨by first | rfl | simp [*], by repeat (first | exact Drawn0.refl _ | apply Drawn0.step)⟩
     ·rw [if_neg c7] at H
      have c7b0 : (a0.toList == ([109, 115] : List UInt8)) = false := beq_eq_false_iff_ne.mpr c7
      by_cases c8 : a0.toList = ([115] : List UInt8)
      ·rw [if_pos c8] at H
       have c8b0 : (a0.toList == ([115] : List UInt8)) = true := beq_iff_eq.mpr c8
       simp only [Option.some.injEq, Prod.mk.injEq] at H
       obtain ⟨rfl, rfl⟩ := H
       go_wp2
       go_ret2
       exact ⟨by first | rfl | simp [*], by repeat (first | exact Drawn0.refl _ | apply Drawn0.step)⟩
      ·rw [if_neg c8] at H
       have c8b0 : (a0.toList == ([115] : List UInt8)) = false := beq_eq_false_iff_ne.mpr c8
       by_cases c9 : a0.toList = ([109] : List UInt8)
       ·rw [if_pos c9] at H
        have c9b0 : (a0.toList == ([109] : List UInt8)) = true := beq_iff_eq.mpr c9
        simp only [Option.some.injEq, Prod.mk.injEq] at H
        obtain ⟨rfl, rfl⟩ := H
        go_wp2
        go_ret2
        exact ⟨by first | rfl | simp [*], by repeat (first | exact Drawn0.refl _ | apply Drawn0.step)⟩
       ·rw [if_neg c9] at H
        have c9b0 : (a0.toList == ([109] : List UInt8)) = false := beq_eq_false_iff_ne.mpr c9
        by_cases c10 : a0.toList = ([104] : List UInt8)
        ·rw [if_pos c10] at H
         have c10b0 : (a0.toList == ([104] : List UInt8)) = true := beq_iff_eq.mpr c10
         simp only [Option.some.injEq, Prod.mk.injEq] at H
         obtain ⟨rfl, rfl⟩ := H
         go_wp2
         go_ret2
         exact ⟨by first | rfl | simp [*], by repeat (first | exact Drawn0.refl _ | apply Drawn0.step)⟩
        ·rw [if_neg c10] at H
         have c10b0 : (a0.toList == ([104] : List UInt8)) = false := beq_eq_false_iff_ne.mpr c10
         simp only [Option.some.injEq, Prod.mk.injEq] at H
         obtain ⟨rfl, rfl⟩ := H
         go_wp2
         go_ret2
         exact ⟨by first | rfl | simp [*], by repeat (first | exact Drawn0.refl _ | apply Drawn0.step)⟩
attribute [local go_sem] max2_int min2_int max_two min_two max_three min_three max_four min_four
def spec_CronTwoOptional.f (a0 : Int) : Option (Bool) := if (Go.bits .and .i64 a0 2) = 0 then (some false) else (some ((Go.bits .and .i64 a0 128) != 0))
theorem spec_CronTwoOptional.calls (a0 : Int) (r : Bool) (w : World) (h : spec_CronTwoOptional.f a0 = some r) :
  Calls Tryz.prog 21 #[.int .i64 a0] w fun e w' => e = .returned (.bool r) ∧ Drawn0 w w' := by
 have H : (if (Go.bits .and .i64 a0 2) = 0 then (some false) else (some ((Go.bits .and .i64 a0 128) != 0))) = some r := h
 clear h
 by_cases c2 : (Go.bits .and .i64 a0 2) = 0
 ·rw [if_pos c2] at H
  have c2b0 : ((Go.bits .and .i64 a0 2) == 0) = true := beq_iff_eq.mpr c2
  have c2b1 : ((Go.bits .and .i64 a0 2) != 0) = false := bne_eq_false_iff_eq.mpr c2
  obtain rfl := Option.some.inj H
  go_enter Tryz.func21, Tryz.ntmps21
  go_wp2
  go_ret
  exact ⟨by first | rfl | simp [*], by repeat (first | exact Drawn0.refl _ | apply Drawn0.step)⟩
 ·rw [if_neg c2] at H
  have c2b0 : ((Go.bits .and .i64 a0 2) == 0) = false := beq_eq_false_iff_ne.mpr c2
  have c2b1 : ((Go.bits .and .i64 a0 2) != 0) = true := bne_iff_ne.mpr c2
  obtain rfl := Option.some.inj H
  go_enter Tryz.func21, Tryz.ntmps21
  go_wp2
  go_ret
  exact ⟨by first | rfl | simp [*], by repeat (first | exact Drawn0.refl _ | apply Drawn0.step)⟩
attribute [local go_sem] max2_int min2_int max_two min_two max_three min_three max_four min_four
def cron_zzIndex.l0 : Nat → ByteArray → ByteArray → Int → Option (Int)
 | 0, _, _, _ => none
 | k + 1, x0, x1, x5 => if (wrap64 (x5 + (x1.size : Int))) ≤ (x0.size : Int) then (if 0 ≤ x5 then (if x5 ≤ (wrap64 (x5 + (x1.size : Int))) then (if (x0.extract (x5 : Int).toNat ((wrap64 (x5 + (x1.size : Int))) : Int).toNat).toList = x1.toList then (some x5) else (cron_zzIndex.l0 k x0 x1 (wrap64 (x5 + 1)))) else (none)) else (none)) else (some (-1))
def cron_zzIndex.f (k : Nat) (a0 : ByteArray) (a1 : ByteArray) : Option (Int) := cron_zzIndex.l0 k a0 a1 0
theorem cron_zzIndex.calls (k : Nat) (a0 : ByteArray) (a1 : ByteArray) (r : Int) (w : World) (h : cron_zzIndex.f k a0 a1 = some r) :
  Calls Tryz.prog 51 #[.string a0, .string a1] w fun e w' => e = .returned (.int .i64 r) ∧ Drawn0 w w' := by
 have H : (cron_zzIndex.l0 k a0 a1 0) = some r := h
 clear h
 have H' := Aside0.mk H
 clear H
 go_enter Tryz.func51, Tryz.ntmps51
 go_wp2
 go_loopg [5] k (fun kq v5 w' => ∃ (x5_1 : Int), v5 = .int .i64 x5_1 ∧ Aside0 (cron_zzIndex.l0 kq a0 a1 x5_1 = some r) ∧ Aside0 (kq ≤ k) ∧ Drawn0 w w')
 case atStart => exact ⟨(0), (by first | rfl | simp [*]), H', ⟨Nat.le_refl _⟩, by repeat (first | exact Drawn0.refl _ | apply Drawn0.step)⟩
 case round =>
  clear H'
  obtain ⟨x5_1, rfl, HA, HK1, ⟨m1, rfl⟩⟩ := hrel
  cases gk with
  | zero => exact absurd HA.out (by simp [cron_zzIndex.l0])
  | succ k1 =>
   have H := HA.out
   clear HA
   simp only [cron_zzIndex.l0] at H
   by_cases c3 : (wrap64 (x5_1 + (a1.size : Int))) ≤ (a0.size : Int)
   ·rw [if_pos c3] at H
    have c3b0 : decide ((wrap64 (x5_1 + (a1.size : Int))) ≤ (a0.size : Int)) = true := decide_eq_true c3
    by_cases c4 : 0 ≤ x5_1
    ·rw [if_pos c4] at H
     have c4b0 := eq_true c4
     by_cases c5 : x5_1 ≤ (wrap64 (x5_1 + (a1.size : Int)))
     ·rw [if_pos c5] at H
      have c5b0 := eq_true c5
      have c6b0 := eq_true (of_decide_eq_true (by assumption) : (wrap64 (x5_1 + (a1.size : Int))) ≤ (a0.size : Int))
      by_cases c7 : (a0.extract (x5_1 : Int).toNat ((wrap64 (x5_1 + (a1.size : Int))) : Int).toNat).toList = a1.toList
      ·rw [if_pos c7] at H
       have c7b0 : ((a0.extract (x5_1 : Int).toNat ((wrap64 (x5_1 + (a1.size : Int))) : Int).toNat).toList == a1.toList) = true := beq_iff_eq.mpr c7
       obtain rfl := Option.some.inj H
       go_wp2
       go_ret
       exact ⟨by first | rfl | simp [*], by repeat (first | exact Drawn0.refl _ | apply Drawn0.step)⟩
      ·rw [if_neg c7] at H
       have c7b0 : ((a0.extract (x5_1 : Int).toNat ((wrap64 (x5_1 + (a1.size : Int))) : Int).toNat).toList == a1.toList) = false := beq_eq_false_iff_ne.mpr c7
       have H' := Aside0.mk H
       clear H
       go_wp2
       go_roundg k1
       case measure => have := HK1.out; omega
       case rel => exact ⟨(wrap64 (x5_1 + 1)), (by first | rfl | simp [*]), H', ⟨by have := HK1.out; omega⟩, by repeat (first | exact Drawn0.refl _ | apply Drawn0.step)⟩
     ·rw [if_neg c5] at H
      exact absurd H (by simp)
    ·rw [if_neg c4] at H
     exact absurd H (by simp)
   ·rw [if_neg c3] at H
    have c3b0 : decide ((wrap64 (x5_1 + (a1.size : Int))) ≤ (a0.size : Int)) = false := decide_eq_false c3
    obtain rfl := Option.some.inj H
    go_wp2
    go_ret
    exact ⟨by first | rfl | simp [*], by repeat (first | exact Drawn0.refl _ | apply Drawn0.step)⟩
def gotime_Duration_Nanoseconds.f (a0 : Int) : Option (Int) := some a0
theorem gotime_Duration_Nanoseconds.calls (a0 : Int) (r : Int) (w : World) (h : gotime_Duration_Nanoseconds.f a0 = some r) :
  Calls Tryz.prog 121 #[.int .i64 a0] w fun e w' => e = .returned (.int .i64 r) ∧ Drawn0 w w' := by
 have H : (some a0) = some r := h
 clear h
 obtain rfl := Option.some.inj H
 go_enter Tryz.func121, Tryz.ntmps121
 go_wp2
 go_ret
 exact ⟨by first | rfl | simp [*], by repeat (first | exact Drawn0.refl _ | apply Drawn0.step)⟩
def cron_Every.f (a0 : Int) : Option (Int) := if a0 < 1000000000 then ((gotime_Duration_Nanoseconds.f 1000000000).bind fun t178 => (some (wrap64 (1000000000 - (Int.tmod t178 1000000000))))) else ((gotime_Duration_Nanoseconds.f a0).bind fun t179 => (some (wrap64 (a0 - (Int.tmod t179 1000000000)))))
theorem cron_Every.calls (a0 : Int) (r : Int) (w : World) (h : cron_Every.f a0 = some r) :
  Calls Tryz.prog 91 #[.int .i64 a0] w fun e w' => e = .returned (.agg #[.int .i64 r]) ∧ Below w.heap.size w w' := by
 have hu144 := Tryz.underlying144
 have HB := Aside0.mk (Below.refl w.heap.size w)
 have H : (if a0 < 1000000000 then ((gotime_Duration_Nanoseconds.f 1000000000).bind fun t178 => (some (wrap64 (1000000000 - (Int.tmod t178 1000000000))))) else ((gotime_Duration_Nanoseconds.f a0).bind fun t179 => (some (wrap64 (a0 - (Int.tmod t179 1000000000)))))) = some r := h
 clear h
 by_cases c2 : a0 < 1000000000
 ·rw [if_pos c2] at H
  have c2b0 : decide (a0 < 1000000000) = true := decide_eq_true c2
  replace H := Option.bind_eq_some_iff.mp H
  obtain ⟨t178, A30, H⟩ := H
  replace H : (some (wrap64 (1000000000 - (Int.tmod t178 1000000000)))) = some r := H
  have A3 := Aside0.mk A30
  clear A30
  obtain rfl := Option.some.inj H
  go_enter Tryz.func91, Tryz.ntmps91
  go_wp2_with (first | ((with_reducible refine gate_dst (N := 2) rfl ?_); refine box_event ?hg (N := 2) ?hd (cs := #[.int .i64 0]) (t := 144) ?hr ?_; (case hd => rfl); (case hg => rfl); (case hr => first | (go_simp; done) | (go_simp; rfl)); intro gb177 hg w4 hbox hb; have n0_ := Aside0.mk (below_step (by repeat (first | (with_reducible first | exact HB.out | apply below_alloc | apply pw_below_drewN | apply below_drew1) | exact HB.out)) hb); have n1_ := Aside0.mk (hbox); have n2_ := Aside0.mk ((by rw [hg]; exact (below_size (by repeat (first | (with_reducible first | exact HB.out | apply below_alloc | apply pw_below_drewN | apply below_drew1) | exact HB.out))) : w.heap.size ≤ gb177)); have n3_ := Aside0.mk ((by rw [hg]; exact (below_size (by repeat (first | (with_reducible first | exact HB.out | apply below_alloc | apply pw_below_drewN | apply below_drew1) | exact HB.out))) : w.heap.size ≤ gb177)); clear HB; have HB := n0_; have BK177 := n1_; have GW177 := n2_; have GE177 := n3_; clear n0_ n1_ n2_ n3_; clear hb hbox hg) | ((with_reducible refine gate_callee (f := 121) rfl ?_); refine goesL_ (some 7) rfl rfl Tryz.func121 (by kernel_rfl) rfl #[.int .i64 1000000000] rfl (by (try simp only [List.map_toArray, List.map_cons, List.map_nil]); first | done | rfl | (simp only [List.length_drop, List.length_take]; rfl)) ?_; (with_reducible refine (gotime_Duration_Nanoseconds.calls 1000000000 t178 _ A3.out).mono ?_); rintro e w' ⟨rfl, ⟨nd, rfl⟩⟩; refine ⟨_, rfl, ?_⟩; (try (rw [drewN_self w4]; generalize hq_ : World.drewN w4 _ = w4; have n0_ : Aside0 (w4.heap[gb177]? = some (.cells #[.int .i64 0] 144 (0, 0))) := ⟨by rw [← hq_]; exact (by (with_reducible repeat (first | refine blk_drewN ?_ _ | refine blk_drew ?_ | refine blk_alloc ?_ _)); exact BK177.out)⟩; have n1_ : Aside0 (Below w.heap.size w w4) := ⟨by rw [← hq_]; exact (by repeat (first | (with_reducible first | exact HB.out | apply below_alloc | apply pw_below_drewN | apply below_drew1 | refine below_set ?_ GE177.out) | exact HB.out))⟩; clear BK177 HB hq_; have BK177 := n0_; have HB := n1_; clear n0_ n1_)); have hcz5_0 : w4.cell? ⟨gb177, 0, none⟩ = some (.int .i64 0) := (blk_cell BK177.out 0).trans rfl; have hfz5_0 := blk_frozen BK177.out 0))
  refine bodyPost_ret (results_cell_row rfl _ _ gb177 144 #[.int .i64 (wrap64 (1000000000 - (Int.tmod t178 1000000000)))] (0, 0) _ rfl (by (with_reducible repeat (first | refine blk_drewN ?_ _ | refine blk_drew ?_ | refine blk_alloc ?_ _)); refine blk_put (cs := #[.int .i64 0]) ?_ 0 _ rfl; (with_reducible repeat (first | refine blk_drewN ?_ _ | refine blk_drew ?_ | refine blk_alloc ?_ _)); exact BK177.out) Tryz.underlying144 rfl (by kernel_rfl)) rfl ?_
  exact ⟨by first | rfl | (simp [errW_none, errW_some] <;> rfl) | (simp [*, errW_none, errW_some] <;> rfl), by repeat (first | (with_reducible first | exact HB.out | apply below_alloc | apply pw_below_drewN | apply below_drew1 | refine below_set ?_ GE177.out) | exact HB.out)⟩
 ·rw [if_neg c2] at H
  have c2b0 : decide (a0 < 1000000000) = false := decide_eq_false c2
  replace H := Option.bind_eq_some_iff.mp H
  obtain ⟨t179, A60, H⟩ := H
  replace H : (some (wrap64 (a0 - (Int.tmod t179 1000000000)))) = some r := H
  have A6 := Aside0.mk A60
  clear A60
  obtain rfl := Option.some.inj H
  go_enter Tryz.func91, Tryz.ntmps91
  go_wp2_with (first | ((with_reducible refine gate_dst (N := 2) rfl ?_); refine box_event ?hg (N := 2) ?hd (cs := #[.int .i64 0]) (t := 144) ?hr ?_; (case hd => rfl); (case hg => rfl); (case hr => first | (go_simp; done) | (go_simp; rfl)); intro gb177 hg w7 hbox hb; have n0_ := Aside0.mk (below_step (by repeat (first | (with_reducible first | exact HB.out | apply below_alloc | apply pw_below_drewN | apply below_drew1) | exact HB.out)) hb); have n1_ := Aside0.mk (hbox); have n2_ := Aside0.mk ((by rw [hg]; exact (below_size (by repeat (first | (with_reducible first | exact HB.out | apply below_alloc | apply pw_below_drewN | apply below_drew1) | exact HB.out))) : w.heap.size ≤ gb177)); have n3_ := Aside0.mk ((by rw [hg]; exact (below_size (by repeat (first | (with_reducible first | exact HB.out | apply below_alloc | apply pw_below_drewN | apply below_drew1) | exact HB.out))) : w.heap.size ≤ gb177)); clear HB; have HB := n0_; have BK177 := n1_; have GW177 := n2_; have GE177 := n3_; clear n0_ n1_ n2_ n3_; clear hb hbox hg) | ((with_reducible refine gate_callee (f := 121) rfl ?_); refine goesL_ (some 7) rfl rfl Tryz.func121 (by kernel_rfl) rfl #[.int .i64 a0] rfl (by (try simp only [List.map_toArray, List.map_cons, List.map_nil]); first | done | rfl | (simp only [List.length_drop, List.length_take]; rfl)) ?_; (with_reducible refine (gotime_Duration_Nanoseconds.calls a0 t179 _ A6.out).mono ?_); rintro e w' ⟨rfl, ⟨nd, rfl⟩⟩; refine ⟨_, rfl, ?_⟩; (try (rw [drewN_self w7]; generalize hq_ : World.drewN w7 _ = w7; have n0_ : Aside0 (w7.heap[gb177]? = some (.cells #[.int .i64 0] 144 (0, 0))) := ⟨by rw [← hq_]; exact (by (with_reducible repeat (first | refine blk_drewN ?_ _ | refine blk_drew ?_ | refine blk_alloc ?_ _)); exact BK177.out)⟩; have n1_ : Aside0 (Below w.heap.size w w7) := ⟨by rw [← hq_]; exact (by repeat (first | (with_reducible first | exact HB.out | apply below_alloc | apply pw_below_drewN | apply below_drew1 | refine below_set ?_ GE177.out) | exact HB.out))⟩; clear BK177 HB hq_; have BK177 := n0_; have HB := n1_; clear n0_ n1_)); have hcz8_0 : w7.cell? ⟨gb177, 0, none⟩ = some (.int .i64 0) := (blk_cell BK177.out 0).trans rfl; have hfz8_0 := blk_frozen BK177.out 0))
  refine bodyPost_ret (results_cell_row rfl _ _ gb177 144 #[.int .i64 (wrap64 (a0 - (Int.tmod t179 1000000000)))] (0, 0) _ rfl (by (with_reducible repeat (first | refine blk_drewN ?_ _ | refine blk_drew ?_ | refine blk_alloc ?_ _)); refine blk_put (cs := #[.int .i64 0]) ?_ 0 _ rfl; (with_reducible repeat (first | refine blk_drewN ?_ _ | refine blk_drew ?_ | refine blk_alloc ?_ _)); exact BK177.out) Tryz.underlying144 rfl (by kernel_rfl)) rfl ?_
  exact ⟨by first | rfl | (simp [errW_none, errW_some] <;> rfl) | (simp [*, errW_none, errW_some] <;> rfl), by repeat (first | (with_reducible first | exact HB.out | apply below_alloc | apply pw_below_drewN | apply below_drew1 | refine below_set ?_ GE177.out) | exact HB.out)⟩
def spec_floorDiv.f (a0 : Int) (a1 : Int) : Option (Int) := if a1 = 0 then (none) else (if (Int.tmod a0 a1) < 0 then (some (wrap64 ((wrap64 (Int.tdiv a0 a1)) - 1))) else (some (wrap64 (Int.tdiv a0 a1))))
theorem spec_floorDiv.calls (a0 : Int) (a1 : Int) (r : Int) (w : World) (h : spec_floorDiv.f a0 a1 = some r) :
  Calls Tryz.prog 71 #[.int .i64 a0, .int .i64 a1] w fun e w' => e = .returned (.int .i64 r) ∧ Drawn0 w w' := by
 have H : (if a1 = 0 then (none) else (if (Int.tmod a0 a1) < 0 then (some (wrap64 ((wrap64 (Int.tdiv a0 a1)) - 1))) else (some (wrap64 (Int.tdiv a0 a1))))) = some r := h
 clear h
 by_cases c3 : a1 = 0
 ·rw [if_pos c3] at H
  exact absurd H (by simp)
 ·rw [if_neg c3] at H
  have c3b0 : (a1 == 0) = false := beq_eq_false_iff_ne.mpr c3
  by_cases c4 : (Int.tmod a0 a1) < 0
  ·rw [if_pos c4] at H
   have c4b0 : decide ((Int.tmod a0 a1) < 0) = true := decide_eq_true c4
   obtain rfl := Option.some.inj H
   go_enter Tryz.func71, Tryz.ntmps71
   go_wp2
   go_ret
   exact ⟨by first | rfl | simp [*], by repeat (first | exact Drawn0.refl _ | apply Drawn0.step)⟩
  ·rw [if_neg c4] at H
   have c4b0 : decide ((Int.tmod a0 a1) < 0) = false := decide_eq_false c4
   obtain rfl := Option.some.inj H
   go_enter Tryz.func71, Tryz.ntmps71
   go_wp2
   go_ret
   exact ⟨by first | rfl | simp [*], by repeat (first | exact Drawn0.refl _ | apply Drawn0.step)⟩
def spec_CronYearStart.f (a0 : Int) : Option (Int) := (spec_floorDiv.f (wrap64 (a0 - 1)) 4).bind fun t191 => ((spec_floorDiv.f (wrap64 (a0 - 1)) 100).bind fun t192 => ((spec_floorDiv.f (wrap64 (a0 - 1)) 400).bind fun t193 => (some (wrap64 ((wrap64 ((wrap64 ((wrap64 ((wrap64 (365 * (wrap64 (a0 - 1)))) + t191)) - t192)) + t193)) - 719162)))))
theorem spec_CronYearStart.calls (a0 : Int) (r : Int) (w : World) (h : spec_CronYearStart.f a0 = some r) :
  Calls Tryz.prog 101 #[.int .i64 a0] w fun e w' => e = .returned (.int .i64 r) ∧ Drawn0 w w' := by
 have H : ((spec_floorDiv.f (wrap64 (a0 - 1)) 4).bind fun t191 => ((spec_floorDiv.f (wrap64 (a0 - 1)) 100).bind fun t192 => ((spec_floorDiv.f (wrap64 (a0 - 1)) 400).bind fun t193 => (some (wrap64 ((wrap64 ((wrap64 ((wrap64 ((wrap64 (365 * (wrap64 (a0 - 1)))) + t191)) - t192)) + t193)) - 719162)))))) = some r := h
 clear h
 replace H := Option.bind_eq_some_iff.mp H
 obtain ⟨t191, A20, H⟩ := H
 replace H : ((spec_floorDiv.f (wrap64 (a0 - 1)) 100).bind fun t192 => ((spec_floorDiv.f (wrap64 (a0 - 1)) 400).bind fun t193 => (some (wrap64 ((wrap64 ((wrap64 ((wrap64 ((wrap64 (365 * (wrap64 (a0 - 1)))) + t191)) - t192)) + t193)) - 719162))))) = some r := H
 have A2 := Aside0.mk A20
 clear A20
 replace H := Option.bind_eq_some_iff.mp H
 obtain ⟨t192, A30, H⟩ := H
 replace H : ((spec_floorDiv.f (wrap64 (a0 - 1)) 400).bind fun t193 => (some (wrap64 ((wrap64 ((wrap64 ((wrap64 ((wrap64 (365 * (wrap64 (a0 - 1)))) + t191)) - t192)) + t193)) - 719162)))) = some r := H
 have A3 := Aside0.mk A30
 clear A30
 replace H := Option.bind_eq_some_iff.mp H
 obtain ⟨t193, A40, H⟩ := H
 replace H : (some (wrap64 ((wrap64 ((wrap64 ((wrap64 ((wrap64 (365 * (wrap64 (a0 - 1)))) + t191)) - t192)) + t193)) - 719162))) = some r := H
 have A4 := Aside0.mk A40
 clear A40
 obtain rfl := Option.some.inj H
 go_enter Tryz.func101, Tryz.ntmps101
 go_wp2_with (first | ((with_reducible refine gate_callee (f := 71) rfl ?_); refine goesL_ (some 9) rfl rfl Tryz.func71 (by kernel_rfl) rfl #[.int .i64 (wrap64 (a0 - 1)), .int .i64 4] rfl (by (try simp only [List.map_toArray, List.map_cons, List.map_nil]); first | done | rfl | (simp only [List.length_drop, List.length_take]; rfl)) ?_; (with_reducible refine (spec_floorDiv.calls (wrap64 (a0 - 1)) 4 t191 _ A2.out).mono ?_); rintro e w' ⟨rfl, ⟨nd, rfl⟩⟩; refine ⟨_, rfl, ?_⟩) | ((with_reducible refine gate_callee (f := 71) rfl ?_); refine goesL_ (some 12) rfl rfl Tryz.func71 (by kernel_rfl) rfl #[.int .i64 (wrap64 (a0 - 1)), .int .i64 100] rfl (by (try simp only [List.map_toArray, List.map_cons, List.map_nil]); first | done | rfl | (simp only [List.length_drop, List.length_take]; rfl)) ?_; (with_reducible refine (spec_floorDiv.calls (wrap64 (a0 - 1)) 100 t192 _ A3.out).mono ?_); rintro e w' ⟨rfl, ⟨nd, rfl⟩⟩; refine ⟨_, rfl, ?_⟩) | ((with_reducible refine gate_callee (f := 71) rfl ?_); refine goesL_ (some 15) rfl rfl Tryz.func71 (by kernel_rfl) rfl #[.int .i64 (wrap64 (a0 - 1)), .int .i64 400] rfl (by (try simp only [List.map_toArray, List.map_cons, List.map_nil]); first | done | rfl | (simp only [List.length_drop, List.length_take]; rfl)) ?_; (with_reducible refine (spec_floorDiv.calls (wrap64 (a0 - 1)) 400 t193 _ A4.out).mono ?_); rintro e w' ⟨rfl, ⟨nd, rfl⟩⟩; refine ⟨_, rfl, ?_⟩))
 go_ret
 exact ⟨by first | rfl | simp [*], by repeat (first | exact Drawn0.refl _ | apply Drawn0.step)⟩
def spec_CronLeap.f (a0 : Int) : Option (Bool) := if (Int.tmod a0 4) = 0 then (if (Int.tmod a0 100) = 0 then (some ((Int.tmod a0 400) == 0)) else (some true)) else (some false)
theorem spec_CronLeap.calls (a0 : Int) (r : Bool) (w : World) (h : spec_CronLeap.f a0 = some r) :
  Calls Tryz.prog 128 #[.int .i64 a0] w fun e w' => e = .returned (.bool r) ∧ Drawn0 w w' := by
 have H : (if (Int.tmod a0 4) = 0 then (if (Int.tmod a0 100) = 0 then (some ((Int.tmod a0 400) == 0)) else (some true)) else (some false)) = some r := h
 clear h
 by_cases c2 : (Int.tmod a0 4) = 0
 ·rw [if_pos c2] at H
  have c2b0 : ((Int.tmod a0 4) == 0) = true := beq_iff_eq.mpr c2
  have c2b1 : ((Int.tmod a0 4) != 0) = false := bne_eq_false_iff_eq.mpr c2
  by_cases c3 : (Int.tmod a0 100) = 0
  ·rw [if_pos c3] at H
   have c3b0 : ((Int.tmod a0 100) == 0) = true := beq_iff_eq.mpr c3
   have c3b1 : ((Int.tmod a0 100) != 0) = false := bne_eq_false_iff_eq.mpr c3
   obtain rfl := Option.some.inj H
   go_enter Tryz.func128, Tryz.ntmps128
   go_wp2
   go_ret
   exact ⟨by first | rfl | simp [*], by repeat (first | exact Drawn0.refl _ | apply Drawn0.step)⟩
  ·rw [if_neg c3] at H
   have c3b0 : ((Int.tmod a0 100) == 0) = false := beq_eq_false_iff_ne.mpr c3
   have c3b1 : ((Int.tmod a0 100) != 0) = true := bne_iff_ne.mpr c3
   obtain rfl := Option.some.inj H
   go_enter Tryz.func128, Tryz.ntmps128
   go_wp2
   go_ret
   exact ⟨by first | rfl | simp [*], by repeat (first | exact Drawn0.refl _ | apply Drawn0.step)⟩
 ·rw [if_neg c2] at H
  have c2b0 : ((Int.tmod a0 4) == 0) = false := beq_eq_false_iff_ne.mpr c2
  have c2b1 : ((Int.tmod a0 4) != 0) = true := bne_iff_ne.mpr c2
  obtain rfl := Option.some.inj H
  go_enter Tryz.func128, Tryz.ntmps128
  go_wp2
  go_ret
  exact ⟨by first | rfl | simp [*], by repeat (first | exact Drawn0.refl _ | apply Drawn0.step)⟩
def spec_CronMonthDays.f (a0 : Int) (a1 : Int) : Option (Int) := if a1 = 2 then ((spec_CronLeap.f a0).bind fun t194 => (if t194 = true then (some 29) else (some 28))) else (if a1 = 4 then (some 30) else (if a1 = 6 then (some 30) else (if a1 = 9 then (some 30) else (if a1 = 11 then (some 30) else (some 31)))))
theorem spec_CronMonthDays.calls (a0 : Int) (a1 : Int) (r : Int) (w : World) (h : spec_CronMonthDays.f a0 a1 = some r) :
  Calls Tryz.prog 102 #[.int .i64 a0, .int .i64 a1] w fun e w' => e = .returned (.int .i64 r) ∧ Drawn0 w w' := by
 have H : (if a1 = 2 then ((spec_CronLeap.f a0).bind fun t194 => (if t194 = true then (some 29) else (some 28))) else (if a1 = 4 then (some 30) else (if a1 = 6 then (some 30) else (if a1 = 9 then (some 30) else (if a1 = 11 then (some 30) else (some 31)))))) = some r := h
 clear h
 by_cases c3 : a1 = 2
 ·rw [if_pos c3] at H
  have c3b0 : (a1 == 2) = true := beq_iff_eq.mpr c3
  replace H := Option.bind_eq_some_iff.mp H
  obtain ⟨t194, A40, H⟩ := H
  replace H : (if t194 = true then (some 29) else (some 28)) = some r := H
  have A4 := Aside0.mk A40
  clear A40
  by_cases c5 : t194 = true
  ·subst c5
   have H1 : (some 29) = some r := by rw [if_pos rfl] at H; exact H
   clear H
   have H := H1
   clear H1
   obtain rfl := Option.some.inj H
   go_enter Tryz.func102, Tryz.ntmps102
   go_wp2_with (first | ((with_reducible refine gate_callee (f := 128) rfl ?_); refine goesL_ (some 9) rfl rfl Tryz.func128 (by kernel_rfl) rfl #[.int .i64 a0] rfl (by (try simp only [List.map_toArray, List.map_cons, List.map_nil]); first | done | rfl | (simp only [List.length_drop, List.length_take]; rfl)) ?_; (with_reducible refine (spec_CronLeap.calls a0 true _ A4.out).mono ?_); rintro e w' ⟨rfl, ⟨nd, rfl⟩⟩; refine ⟨_, rfl, ?_⟩))
   go_ret
   exact ⟨by first | rfl | simp [*], by repeat (first | exact Drawn0.refl _ | apply Drawn0.step)⟩
  ·replace c5 := Bool.eq_false_iff.mpr c5
   subst c5
   have H1 : (some 28) = some r := by rw [if_neg (show ¬ (false = true) by decide)] at H; exact H
   clear H
   have H := H1
   clear H1
   obtain rfl := Option.some.inj H
   go_enter Tryz.func102, Tryz.ntmps102
   go_wp2_with (first | ((with_reducible refine gate_callee (f := 128) rfl ?_); refine goesL_ (some 9) rfl rfl Tryz.func128 (by kernel_rfl) rfl #[.int .i64 a0] rfl (by (try simp only [List.map_toArray, List.map_cons, List.map_nil]); first | done | rfl | (simp only [List.length_drop, List.length_take]; rfl)) ?_; (with_reducible refine (spec_CronLeap.calls a0 false _ A4.out).mono ?_); rintro e w' ⟨rfl, ⟨nd, rfl⟩⟩; refine ⟨_, rfl, ?_⟩))
   go_ret
   exact ⟨by first | rfl | simp [*], by repeat (first | exact Drawn0.refl _ | apply Drawn0.step)⟩
 ·rw [if_neg c3] at H
  have c3b0 : (a1 == 2) = false := beq_eq_false_iff_ne.mpr c3
  by_cases c6 : a1 = 4
  ·rw [if_pos c6] at H
   have c6b0 : (a1 == 4) = true := beq_iff_eq.mpr c6
   obtain rfl := Option.some.inj H
   go_enter Tryz.func102, Tryz.ntmps102
   go_wp2
   go_ret
   exact ⟨by first | rfl | simp [*], by repeat (first | exact Drawn0.refl _ | apply Drawn0.step)⟩
  ·rw [if_neg c6] at H
   have c6b0 : (a1 == 4) = false := beq_eq_false_iff_ne.mpr c6
   by_cases c7 : a1 = 6
   ·rw [if_pos c7] at H
    have c7b0 : (a1 == 6) = true := beq_iff_eq.mpr c7
    obtain rfl := Option.some.inj H
    go_enter Tryz.func102, Tryz.ntmps102
    go_wp2
    go_ret
    exact ⟨by first | rfl | simp [*], by repeat (first | exact Drawn0.refl _ | apply Drawn0.step)⟩
   ·rw [if_neg c7] at H
    have c7b0 : (a1 == 6) = false := beq_eq_false_iff_ne.mpr c7
    by_cases c8 : a1 = 9
    ·rw [if_pos c8] at H
     have c8b0 : (a1 == 9) = true := beq_iff_eq.mpr c8
     obtain rfl := Option.some.inj H
     go_enter Tryz.func102, Tryz.ntmps102
     go_wp2
     go_ret
     exact ⟨by first | rfl | simp [*], by repeat (first | exact Drawn0.refl _ | apply Drawn0.step)⟩
    ·rw [if_neg c8] at H
     have c8b0 : (a1 == 9) = false := beq_eq_false_iff_ne.mpr c8
     by_cases c9 : a1 = 11
     ·rw [if_pos c9] at H
      have c9b0 : (a1 == 11) = true := beq_iff_eq.mpr c9
      obtain rfl := Option.some.inj H
      go_enter Tryz.func102, Tryz.ntmps102
      go_wp2
      go_ret
      exact ⟨by first | rfl | simp [*], by repeat (first | exact Drawn0.refl _ | apply Drawn0.step)⟩
     ·rw [if_neg c9] at H
      have c9b0 : (a1 == 11) = false := beq_eq_false_iff_ne.mpr c9
      obtain rfl := Option.some.inj H
      go_enter Tryz.func102, Tryz.ntmps102
      go_wp2
      go_ret
      exact ⟨by first | rfl | simp [*], by repeat (first | exact Drawn0.refl _ | apply Drawn0.step)⟩
attribute [local go_sem] max2_int min2_int max_two min_two max_three min_three max_four min_four
def spec_floorMod.f (a0 : Int) (a1 : Int) : Option (Int) := (spec_floorDiv.f a0 a1).bind fun t211 => (some (wrap64 (a0 - (wrap64 (a1 * t211)))))
theorem spec_floorMod.calls (a0 : Int) (a1 : Int) (r : Int) (w : World) (h : spec_floorMod.f a0 a1 = some r) :
  Calls Tryz.prog 130 #[.int .i64 a0, .int .i64 a1] w fun e w' => e = .returned (.int .i64 r) ∧ Drawn0 w w' := by
 have H : ((spec_floorDiv.f a0 a1).bind fun t211 => (some (wrap64 (a0 - (wrap64 (a1 * t211)))))) = some r := h
 clear h
 replace H := Option.bind_eq_some_iff.mp H
 obtain ⟨t211, A30, H⟩ := H
 replace H : (some (wrap64 (a0 - (wrap64 (a1 * t211))))) = some r := H
 have A3 := Aside0.mk A30
 clear A30
 obtain rfl := Option.some.inj H
 go_enter Tryz.func130, Tryz.ntmps130
 go_wp2_with (first | ((with_reducible refine gate_callee (f := 71) rfl ?_); refine goesL_ (some 9) rfl rfl Tryz.func71 (by kernel_rfl) rfl #[.int .i64 a0, .int .i64 a1] rfl (by (try simp only [List.map_toArray, List.map_cons, List.map_nil]); first | done | rfl | (simp only [List.length_drop, List.length_take]; rfl)) ?_; (with_reducible refine (spec_floorDiv.calls a0 a1 t211 _ A3.out).mono ?_); rintro e w' ⟨rfl, ⟨nd, rfl⟩⟩; refine ⟨_, rfl, ?_⟩))
 go_ret
 exact ⟨by first | rfl | simp [*], by repeat (first | exact Drawn0.refl _ | apply Drawn0.step)⟩
def spec_CronWeekday.f (a0 : Int) : Option (Int) := (spec_floorMod.f (wrap64 (a0 + 4)) 7).bind fun t212 => (some t212)
theorem spec_CronWeekday.calls (a0 : Int) (r : Int) (w : World) (h : spec_CronWeekday.f a0 = some r) :
  Calls Tryz.prog 106 #[.int .i64 a0] w fun e w' => e = .returned (.int .i64 r) ∧ Drawn0 w w' := by
 have H : ((spec_floorMod.f (wrap64 (a0 + 4)) 7).bind fun t212 => (some t212)) = some r := h
 clear h
 replace H := Option.bind_eq_some_iff.mp H
 obtain ⟨t212, A20, H⟩ := H
 replace H : (some t212) = some r := H
 have A2 := Aside0.mk A20
 clear A20
 obtain rfl := Option.some.inj H
 go_enter Tryz.func106, Tryz.ntmps106
 go_wp2_with (first | ((with_reducible refine gate_callee (f := 130) rfl ?_); refine goesL_ (some 5) rfl rfl Tryz.func130 (by kernel_rfl) rfl #[.int .i64 (wrap64 (a0 + 4)), .int .i64 7] rfl (by (try simp only [List.map_toArray, List.map_cons, List.map_nil]); first | done | rfl | (simp only [List.length_drop, List.length_take]; rfl)) ?_; (with_reducible refine (spec_floorMod.calls (wrap64 (a0 + 4)) 7 t212 _ A2.out).mono ?_); rintro e w' ⟨rfl, ⟨nd, rfl⟩⟩; refine ⟨_, rfl, ?_⟩))
 go_ret
 exact ⟨by first | rfl | simp [*], by repeat (first | exact Drawn0.refl _ | apply Drawn0.step)⟩
end Go.Proofs.YtcjdideliifkhaaGreatDoor.PFnCronTextAfterAnywhere
namespace Go.Proofs.YtcjdideliifkhaaGreatDoor.PzzSplit
open Go.RowKit Go.Proofs.YtcjdideliifkhaaGreatDoorW.PrintWords Go.Proofs.YtcjdideliifkhaaGreatDoorW.PrintLast Go.Proofs.YtcjdideliifkhaaGreatDoorW.PrintMore
attribute [local go_sem] max2_int min2_int max_two min_two max_three min_three max_four min_four
def errW : Option Int → Value
 | none => .nilIface
 | some c => .iface 0 (.int .i64 c)
theorem errW_none : errW none = .nilIface := rfl
theorem errW_some (c : Int) : errW (some c) = .iface 0 (.int .i64 c) := rfl
theorem info9 : (Tryz.prog.info? 9).map (fun i => (i.zero, i.size, i.bytes)) = some (some (.string ⟨#[]⟩), 1, 16) := by kernel_rfl
end Go.Proofs.YtcjdideliifkhaaGreatDoor.PzzSplit
