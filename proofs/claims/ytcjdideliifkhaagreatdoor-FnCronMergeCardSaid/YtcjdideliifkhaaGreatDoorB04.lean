import Derived.Test.YtcjdideliifkhaaGreatDoorB03
set_option maxRecDepth 100000
set_option maxHeartbeats 16000000
namespace Go.Proofs.YtcjdideliifkhaaGreatDoor.PFnCronTextAfterAnywhere
open Go.RowKit Go.Proofs.YtcjdideliifkhaaGreatDoorW.PrintWords Go.Proofs.YtcjdideliifkhaaGreatDoorW.PrintLast Go.Proofs.YtcjdideliifkhaaGreatDoorW.PrintMore
attribute [local go_sem] max2_int min2_int max_two min_two max_three min_three max_four min_four
set_option linter.unusedVariables false
set_option linter.unusedSimpArgs false
def spec_CronBoundsOf.f (a0 : Int) : Option (Int × Int × Int) := (spec_CronLow.f a0).bind fun t168 => ((spec_CronHigh.f a0).bind fun t169 => (some (t168, t169, a0)))
theorem spec_CronBoundsOf.calls (a0 : Int) (r1 : Int) (r2 : Int) (r3 : Int) (w : World) (h : spec_CronBoundsOf.f a0 = some (r1, r2, r3)) :
  Calls Tryz.prog 84 #[.int .i64 a0] w fun e w' => e = .returned (.agg #[.int .i64 r1, .int .i64 r2, .int .i64 r3]) ∧ Below w.heap.size w w' := by
 have hu169 := Tryz.underlying169
 have HB := Aside0.mk (Below.refl w.heap.size w)
 have H : ((spec_CronLow.f a0).bind fun t168 => ((spec_CronHigh.f a0).bind fun t169 => (some (t168, t169, a0)))) = some (r1, r2, r3) := h
 clear h
 replace H := Option.bind_eq_some_iff.mp H
 obtain ⟨t168, A20, H⟩ := H
 replace H : ((spec_CronHigh.f a0).bind fun t169 => (some (t168, t169, a0))) = some (r1, r2, r3) := H
 have A2 := Aside0.mk A20
 clear A20
 replace H := Option.bind_eq_some_iff.mp H
 obtain ⟨t169, A30, H⟩ := H
 replace H : (some (t168, t169, a0)) = some (r1, r2, r3) := H
 have A3 := Aside0.mk A30
 clear A30
 simp only [Option.some.injEq, Prod.mk.injEq] at H
 obtain ⟨rfl, rfl, rfl⟩ := H
 go_enter Tryz.func84, Tryz.ntmps84
 go_wp2_with (first | ((with_reducible refine gate_dst (N := 2) rfl ?_); refine box_event ?hg (N := 2) ?hd (cs := #[.int .i64 0, .int .i64 0, .int .i64 0]) (t := 169) ?hr ?_; (case hd => rfl); (case hg => rfl); (case hr => first | (go_simp; done) | (go_simp; rfl)); intro gb167 hg w4 hbox hb; have n0_ := Aside0.mk (below_step (by repeat (first | (with_reducible first | exact HB.out | apply below_alloc | apply pw_below_drewN | apply below_drew1) | exact HB.out)) hb); have n1_ := Aside0.mk (hbox); have n2_ := Aside0.mk ((by rw [hg]; exact (below_size (by repeat (first | (with_reducible first | exact HB.out | apply below_alloc | apply pw_below_drewN | apply below_drew1) | exact HB.out))) : w.heap.size ≤ gb167)); have n3_ := Aside0.mk ((by rw [hg]; exact (below_size (by repeat (first | (with_reducible first | exact HB.out | apply below_alloc | apply pw_below_drewN | apply below_drew1) | exact HB.out))) : w.heap.size ≤ gb167)); clear HB; have HB := n0_; have BK167 := n1_; have GW167 := n2_; have GE167 := n3_; clear n0_ n1_ n2_ n3_; clear hb hbox hg) | ((with_reducible refine gate_callee (f := 114) rfl ?_); refine goesL_ (some 4) rfl rfl Tryz.func114 (by kernel_rfl) rfl #[.int .i64 a0] rfl (by (try simp only [List.map_toArray, List.map_cons, List.map_nil]); first | done | rfl | (simp only [List.length_drop, List.length_take]; rfl)) ?_; (with_reducible refine (spec_CronLow.calls a0 t168 _ A2.out).mono ?_); rintro e w' ⟨rfl, ⟨nd, rfl⟩⟩; refine ⟨_, rfl, ?_⟩; (try (rw [drewN_self w4]; generalize hq_ : World.drewN w4 _ = w4; have n0_ : Aside0 (w4.heap[gb167]? = some (.cells #[.int .i64 0, .int .i64 0, .int .i64 0] 169 (0, 0))) := ⟨by rw [← hq_]; exact (by (with_reducible repeat (first | refine blk_drewN ?_ _ | refine blk_drew ?_ | refine blk_alloc ?_ _)); exact BK167.out)⟩; have n1_ : Aside0 (Below w.heap.size w w4) := ⟨by rw [← hq_]; exact (by repeat (first | (with_reducible first | exact HB.out | apply below_alloc | apply pw_below_drewN | apply below_drew1 | refine below_set ?_ GE167.out) | exact HB.out))⟩; clear BK167 HB hq_; have BK167 := n0_; have HB := n1_; clear n0_ n1_))) | ((with_reducible refine gate_callee (f := 115) rfl ?_); refine goesL_ (some 6) rfl rfl Tryz.func115 (by kernel_rfl) rfl #[.int .i64 a0] rfl (by (try simp only [List.map_toArray, List.map_cons, List.map_nil]); first | done | rfl | (simp only [List.length_drop, List.length_take]; rfl)) ?_; (with_reducible refine (spec_CronHigh.calls a0 t169 _ A3.out).mono ?_); rintro e w' ⟨rfl, ⟨nd, rfl⟩⟩; refine ⟨_, rfl, ?_⟩; (try (rw [drewN_self w4]; generalize hq_ : World.drewN w4 _ = w4; have n0_ : Aside0 (w4.heap[gb167]? = some (.cells #[.int .i64 0, .int .i64 0, .int .i64 0] 169 (0, 0))) := ⟨by rw [← hq_]; exact (by (with_reducible repeat (first | refine blk_drewN ?_ _ | refine blk_drew ?_ | refine blk_alloc ?_ _)); exact BK167.out)⟩; have n1_ : Aside0 (Below w.heap.size w w4) := ⟨by rw [← hq_]; exact (by repeat (first | (with_reducible first | exact HB.out | apply below_alloc | apply pw_below_drewN | apply below_drew1 | refine below_set ?_ GE167.out) | exact HB.out))⟩; clear BK167 HB hq_; have BK167 := n0_; have HB := n1_; clear n0_ n1_)); have hcz5_0 : w4.cell? ⟨gb167, 0, none⟩ = some (.int .i64 0) := (blk_cell BK167.out 0).trans rfl; have hcz5_1 : w4.cell? ⟨gb167, 1, none⟩ = some (.int .i64 0) := (blk_cell BK167.out 1).trans rfl; have hcz5_2 : w4.cell? ⟨gb167, 2, none⟩ = some (.int .i64 0) := (blk_cell BK167.out 2).trans rfl; have hfz5_0 := blk_frozen BK167.out 0; have hfz5_1 := blk_frozen BK167.out 1; have hfz5_2 := blk_frozen BK167.out 2))
 refine bodyPost_ret (results_cell_row rfl _ _ gb167 169 #[.int .i64 t168, .int .i64 t169, .int .i64 a0] (0, 0) _ rfl (by (with_reducible repeat (first | refine blk_drewN ?_ _ | refine blk_drew ?_ | refine blk_alloc ?_ _)); refine blk_put (cs := #[.int .i64 t168, .int .i64 t169, .int .i64 0]) ?_ 2 _ rfl; (with_reducible repeat (first | refine blk_drewN ?_ _ | refine blk_drew ?_ | refine blk_alloc ?_ _)); refine blk_put (cs := #[.int .i64 t168, .int .i64 0, .int .i64 0]) ?_ 1 _ rfl; (with_reducible repeat (first | refine blk_drewN ?_ _ | refine blk_drew ?_ | refine blk_alloc ?_ _)); refine blk_put (cs := #[.int .i64 0, .int .i64 0, .int .i64 0]) ?_ 0 _ rfl; (with_reducible repeat (first | refine blk_drewN ?_ _ | refine blk_drew ?_ | refine blk_alloc ?_ _)); exact BK167.out) Tryz.underlying169 rfl (by kernel_rfl)) rfl ?_
 exact ⟨by first | rfl | (simp [errW_none, errW_some] <;> rfl) | (simp [*, errW_none, errW_some] <;> rfl), by repeat (first | (with_reducible first | exact HB.out | apply below_alloc | apply pw_below_drewN | apply below_drew1 | refine below_set ?_ GE167.out) | exact HB.out)⟩
mutual
def spec_CronZoneName.j0 : Nat → ByteArray → Bool → Option (Bool × Int)
 | 0, _, _ => none
 | k + 1, x0, x5 => if x5 = true then (some (true, 1)) else (if x0.toList = ([76, 111, 99, 97, 108] : List UInt8) then (some (false, 1)) else (if 0 < (x0.size : Int) then (if (bt x0 0) = 47 then (some (false, 0)) else (if (bt x0 0) = 92 then (some (false, 0)) else (spec_CronZoneName.l0 k x0 1))) else (none)))
def spec_CronZoneName.l0 : Nat → ByteArray → Int → Option (Bool × Int)
 | 0, _, _ => none
 | k + 1, x0, x4 => if x4 < (x0.size : Int) then (if 0 ≤ (wrap64 (x4 - 1)) then (if (wrap64 (x4 - 1)) < (x0.size : Int) then (if (bt x0 (wrap64 (x4 - 1))) = 46 then (if 0 ≤ x4 then (if (bt x0 x4) = 46 then (some (false, 0)) else (spec_CronZoneName.l0 k x0 (wrap64 (x4 + 1)))) else (none)) else (spec_CronZoneName.l0 k x0 (wrap64 (x4 + 1)))) else (none)) else (none)) else (some (false, 2))
end
def spec_CronZoneName.f (k : Nat) (a0 : ByteArray) : Option (Bool × Int) := if a0.toList = ([] : List UInt8) then (spec_CronZoneName.j0 k a0 true) else (spec_CronZoneName.j0 k a0 (a0.toList == ([85, 84, 67] : List UInt8)))
theorem spec_CronZoneName.calls (k : Nat) (a0 : ByteArray) (r1 : Bool) (r2 : Int) (w : World) (h : spec_CronZoneName.f k a0 = some (r1, r2)) :
  Calls Tryz.prog 25 #[.string a0] w fun e w' => e = .returned (.tuple #[.bool r1, .int .i64 r2]) ∧ Drawn0 w w' := by
 have H : (if a0.toList = ([] : List UInt8) then (spec_CronZoneName.j0 k a0 true) else (spec_CronZoneName.j0 k a0 (a0.toList == ([85, 84, 67] : List UInt8)))) = some (r1, r2) := h
 clear h
 have HC2 := Aside0.mk H
 clear H
 go_enter Tryz.func25, Tryz.ntmps25
 go_upto_region 1 with (fail)
 go_cut [5] (fun v5 wc => ∃ (kq : Nat) (x5_1 : Bool), v5 = .bool x5_1 ∧ Aside0 (spec_CronZoneName.j0 kq a0 x5_1 = some (r1, r2)) ∧ Aside0 (kq ≤ k) ∧ Drawn0 w wc)
 case first =>
  have H := HC2.out
  clear HC2
  by_cases c3 : a0.toList = ([] : List UInt8)
  ·rw [if_pos c3] at H
   have c3b0 : (a0.toList == ([] : List UInt8)) = true := beq_iff_eq.mpr c3
   (first | rw [c3b0] | (simp only [i64_w, i32_w]; rw [c3b0]) | skip)
   have H' := Aside0.mk H
   clear H
   go_wp2
   go_meet
   case rel => exact ⟨_, (true), (by first | rfl | simp [*]), H', ⟨by first | omega | exact Nat.le_refl _⟩, by repeat (first | exact Drawn0.refl _ | apply Drawn0.step)⟩
  ·rw [if_neg c3] at H
   have c3b0 : (a0.toList == ([] : List UInt8)) = false := beq_eq_false_iff_ne.mpr c3
   (first | rw [c3b0] | (simp only [i64_w, i32_w]; rw [c3b0]) | skip)
   have H' := Aside0.mk H
   clear H
   go_wp2
   go_meet
   case rel => exact ⟨_, ((a0.toList == ([85, 84, 67] : List UInt8))), (by first | rfl | simp [*]), H', ⟨by first | omega | exact Nat.le_refl _⟩, by repeat (first | exact Drawn0.refl _ | apply Drawn0.step)⟩
 case rest =>
  clear HC2
  obtain ⟨kq, x5_1, rfl, HA, HJ1, ⟨mc1, rfl⟩⟩ := hcut
  cases kq with
  | zero => exact absurd HA.out (by simp [spec_CronZoneName.j0])
  | succ kj1 =>
   have H := HA.out
   clear HA
   simp only [spec_CronZoneName.j0] at H
   by_cases c4 : x5_1 = true
   ·subst c4
    have H1 : (some (true, 1)) = some (r1, r2) := by rw [if_pos rfl] at H; exact H
    clear H
    have H := H1
    clear H1
    simp only [Option.some.injEq, Prod.mk.injEq] at H
    obtain ⟨rfl, rfl⟩ := H
    go_wp2
    go_ret2
    exact ⟨by first | rfl | simp [*], by repeat (first | exact Drawn0.refl _ | apply Drawn0.step)⟩
   ·replace c4 := Bool.eq_false_iff.mpr c4
    subst c4
    have H1 : (if a0.toList = ([76, 111, 99, 97, 108] : List UInt8) then (some (false, 1)) else (if 0 < (a0.size : Int) then (if (bt a0 0) = 47 then (some (false, 0)) else (if (bt a0 0) = 92 then (some (false, 0)) else (spec_CronZoneName.l0 kj1 a0 1))) else (none))) = some (r1, r2) := by rw [if_neg (show ¬ (false = true) by decide)] at H; exact H
    clear H
    have H := H1
    clear H1
    by_cases c5 : a0.toList = ([76, 111, 99, 97, 108] : List UInt8)
    ·rw [if_pos c5] at H
     have c5b0 : (a0.toList == ([76, 111, 99, 97, 108] : List UInt8)) = true := beq_iff_eq.mpr c5
     simp only [Option.some.injEq, Prod.mk.injEq] at H
     obtain ⟨rfl, rfl⟩ := H
     go_wp2
     go_ret2
     exact ⟨by first | rfl | simp [*], by repeat (first | exact Drawn0.refl _ | apply Drawn0.step)⟩
    ·rw [if_neg c5] at H
     have c5b0 : (a0.toList == ([76, 111, 99, 97, 108] : List UInt8)) = false := beq_eq_false_iff_ne.mpr c5
     by_cases c6 : 0 < (a0.size : Int)
     ·rw [if_pos c6] at H
      have c6b0 : decide (0 < (a0.size : Int)) = true := decide_eq_true c6
      by_cases c8 : (bt a0 0) = 47
      ·rw [if_pos c8] at H
       have c8b0 : ((bt a0 0) == 47) = true := beq_iff_eq.mpr c8
       simp only [Option.some.injEq, Prod.mk.injEq] at H
       obtain ⟨rfl, rfl⟩ := H
       have p7 : 0 ≤ (0 : Int) := (by omega)
       have q7 : 0 < a0.size := (by have : (0 : Int) < (a0.size : Int) := of_decide_eq_true (by assumption); omega)
       have hx7 : ∀ h : 0 < a0.size, ((a0[0]'h).toNat : Int) = bt a0 0 := bt_at a0 0
       clear p7
       have qi7 : (0 < (a0.size : Int)) = True := eq_true (of_decide_eq_true (by assumption))
       replace q7 := eq_true q7
       go_wp2
       go_ret2
       exact ⟨by first | rfl | simp [*], by repeat (first | exact Drawn0.refl _ | apply Drawn0.step)⟩
      ·rw [if_neg c8] at H
       have c8b0 : ((bt a0 0) == 47) = false := beq_eq_false_iff_ne.mpr c8
       by_cases c10 : (bt a0 0) = 92
       ·rw [if_pos c10] at H
        have c10b0 : ((bt a0 0) == 92) = true := beq_iff_eq.mpr c10
        simp only [Option.some.injEq, Prod.mk.injEq] at H
        obtain ⟨rfl, rfl⟩ := H
        have p7 : 0 ≤ (0 : Int) := (by omega)
        have q7 : 0 < a0.size := (by have : (0 : Int) < (a0.size : Int) := of_decide_eq_true (by assumption); omega)
        have hx7 : ∀ h : 0 < a0.size, ((a0[0]'h).toNat : Int) = bt a0 0 := bt_at a0 0
        clear p7
        have qi7 : (0 < (a0.size : Int)) = True := eq_true (of_decide_eq_true (by assumption))
        replace q7 := eq_true q7
        have p9 : 0 ≤ (0 : Int) := (by omega)
        have q9 : 0 < a0.size := (by have : (0 : Int) < (a0.size : Int) := of_decide_eq_true (by assumption); omega)
        have hx9 : ∀ h : 0 < a0.size, ((a0[0]'h).toNat : Int) = bt a0 0 := bt_at a0 0
        clear p9
        have qi9 : (0 < (a0.size : Int)) = True := eq_true (of_decide_eq_true (by assumption))
        replace q9 := eq_true q9
        go_wp2
        go_ret2
        exact ⟨by first | rfl | simp [*], by repeat (first | exact Drawn0.refl _ | apply Drawn0.step)⟩
       ·rw [if_neg c10] at H
        have c10b0 : ((bt a0 0) == 92) = false := beq_eq_false_iff_ne.mpr c10
        have H' := Aside0.mk H
        clear H
        have p7 : 0 ≤ (0 : Int) := (by omega)
        have q7 : 0 < a0.size := (by have : (0 : Int) < (a0.size : Int) := of_decide_eq_true (by assumption); omega)
        have hx7 : ∀ h : 0 < a0.size, ((a0[0]'h).toNat : Int) = bt a0 0 := bt_at a0 0
        clear p7
        have qi7 : (0 < (a0.size : Int)) = True := eq_true (of_decide_eq_true (by assumption))
        replace q7 := eq_true q7
        have p9 : 0 ≤ (0 : Int) := (by omega)
        have q9 : 0 < a0.size := (by have : (0 : Int) < (a0.size : Int) := of_decide_eq_true (by assumption); omega)
        have hx9 : ∀ h : 0 < a0.size, ((a0[0]'h).toNat : Int) = bt a0 0 := bt_at a0 0
        clear p9
        have qi9 : (0 < (a0.size : Int)) = True := eq_true (of_decide_eq_true (by assumption))
        replace q9 := eq_true q9
        go_wp2
        go_loopg [4] kj1 (fun kq v4 w' => ∃ (x4_2 : Int), v4 = .int .i64 x4_2 ∧ Aside0 (spec_CronZoneName.l0 kq a0 x4_2 = some (r1, r2)) ∧ Aside0 (kq ≤ kj1) ∧ Drawn0 w w')
        case atStart => exact ⟨(1), (by first | rfl | simp [*]), H', ⟨Nat.le_refl _⟩, by repeat (first | exact Drawn0.refl _ | apply Drawn0.step)⟩
        case round =>
         clear H'
         obtain ⟨x4_2, rfl, HA, HK2, ⟨m2, rfl⟩⟩ := hrel
         cases gk with
         | zero => exact absurd HA.out (by simp [spec_CronZoneName.l0])
         | succ k2 =>
          have H := HA.out
          clear HA
          simp only [spec_CronZoneName.l0] at H
          by_cases c11 : x4_2 < (a0.size : Int)
          ·rw [if_pos c11] at H
           have c11b0 : decide (x4_2 < (a0.size : Int)) = true := decide_eq_true c11
           obtain ⟨ji12, hji12⟩ : ∃ j_ : Int, (wrap64 (x4_2 - 1)) = j_ := ⟨_, rfl⟩
           replace H : (if 0 ≤ (ji12) then (if (ji12) < (a0.size : Int) then (if (bt a0 (ji12)) = 46 then (if 0 ≤ x4_2 then (if (bt a0 x4_2) = 46 then (some (false, 0)) else (spec_CronZoneName.l0 k2 a0 (wrap64 (x4_2 + 1)))) else (none)) else (spec_CronZoneName.l0 k2 a0 (wrap64 (x4_2 + 1)))) else (none)) else (none)) = some (r1, r2) := by first | (rw [hji12] at H; exact H) | (simp only [hji12] at H ⊢; exact H)
           have hji12w : (IntKind.i64.wrap (x4_2 - 1)) = ji12 := (i64_w _).trans hji12
           by_cases c13 : 0 ≤ (ji12)
           ·rw [if_pos c13] at H
            have c13b0 : decide (0 ≤ (ji12)) = true := decide_eq_true c13
            by_cases c14 : (ji12) < (a0.size : Int)
            ·rw [if_pos c14] at H
             have c14b0 : decide ((ji12) < (a0.size : Int)) = true := decide_eq_true c14
             by_cases c16 : (bt a0 (ji12)) = 46
             ·rw [if_pos c16] at H
              have c16b0 : ((bt a0 (ji12)) == 46) = true := beq_iff_eq.mpr c16
              by_cases c17 : 0 ≤ x4_2
              ·rw [if_pos c17] at H
               have c17b0 : decide (0 ≤ x4_2) = true := decide_eq_true c17
               by_cases c19 : (bt a0 x4_2) = 46
               ·rw [if_pos c19] at H
                have c19b0 : ((bt a0 x4_2) == 46) = true := beq_iff_eq.mpr c19
                simp only [Option.some.injEq, Prod.mk.injEq] at H
                obtain ⟨rfl, rfl⟩ := H
                have p15 : 0 ≤ ((ji12) : Int) := of_decide_eq_true (by assumption)
                have q15 : (ji12) < (a0.size : Int) := of_decide_eq_true (by assumption)
                have hx15 := bt_at a0 (ji12)
                replace p15 := eq_true p15
                replace q15 := eq_true q15
                have p18 : 0 ≤ (x4_2 : Int) := of_decide_eq_true (by assumption)
                have q18 : x4_2 < (a0.size : Int) := of_decide_eq_true (by assumption)
                have hx18 := bt_at a0 x4_2
                replace p18 := eq_true p18
                replace q18 := eq_true q18
                go_wp2
                go_ret2
                exact ⟨by first | rfl | (simp; done) | (simp only [← hji12] <;> (first | rfl | simp)) | (simp [*]; done), by repeat (first | exact Drawn0.refl _ | apply Drawn0.step)⟩
               ·rw [if_neg c19] at H
                have c19b0 : ((bt a0 x4_2) == 46) = false := beq_eq_false_iff_ne.mpr c19
                have H' := Aside0.mk H
                clear H
                have p15 : 0 ≤ ((ji12) : Int) := of_decide_eq_true (by assumption)
                have q15 : (ji12) < (a0.size : Int) := of_decide_eq_true (by assumption)
                have hx15 := bt_at a0 (ji12)
                replace p15 := eq_true p15
                replace q15 := eq_true q15
                have p18 : 0 ≤ (x4_2 : Int) := of_decide_eq_true (by assumption)
                have q18 : x4_2 < (a0.size : Int) := of_decide_eq_true (by assumption)
                have hx18 := bt_at a0 x4_2
                replace p18 := eq_true p18
                replace q18 := eq_true q18
                go_wp2
                go_roundg k2
                case measure => have := HJ1.out; have := HK2.out; omega
                case rel => exact ⟨(wrap64 (x4_2 + 1)), (by first | rfl | simp [*]), H', ⟨by have := HJ1.out; have := HK2.out; omega⟩, by repeat (first | exact Drawn0.refl _ | apply Drawn0.step)⟩
              ·rw [if_neg c17] at H
               exact absurd H (by simp)
             ·rw [if_neg c16] at H
              have c16b0 : ((bt a0 (ji12)) == 46) = false := beq_eq_false_iff_ne.mpr c16
              have H' := Aside0.mk H
              clear H
              have p15 : 0 ≤ ((ji12) : Int) := of_decide_eq_true (by assumption)
              have q15 : (ji12) < (a0.size : Int) := of_decide_eq_true (by assumption)
              have hx15 := bt_at a0 (ji12)
              replace p15 := eq_true p15
              replace q15 := eq_true q15
              go_wp2
              go_roundg k2
              case measure => have := HJ1.out; have := HK2.out; omega
              case rel => exact ⟨(wrap64 (x4_2 + 1)), (by first | rfl | simp [*]), H', ⟨by have := HJ1.out; have := HK2.out; omega⟩, by repeat (first | exact Drawn0.refl _ | apply Drawn0.step)⟩
            ·rw [if_neg c14] at H
             exact absurd H (by simp)
           ·rw [if_neg c13] at H
            exact absurd H (by simp)
          ·rw [if_neg c11] at H
           have c11b0 : decide (x4_2 < (a0.size : Int)) = false := decide_eq_false c11
           simp only [Option.some.injEq, Prod.mk.injEq] at H
           obtain ⟨rfl, rfl⟩ := H
           go_wp2
           go_ret2
           exact ⟨by first | rfl | simp [*], by repeat (first | exact Drawn0.refl _ | apply Drawn0.step)⟩
     ·rw [if_neg c6] at H
      exact absurd H (by simp)
mutual
def spec_CronTrim.j1 : Nat → ByteArray → Option (ByteArray)
 | 0, _ => none
 | k + 1, x0 => spec_CronTrim.l1 k x0
def spec_CronTrim.l1 : Nat → ByteArray → Option (ByteArray)
 | 0, _ => none
 | k + 1, x0 => if x0.toList = ([] : List UInt8) then (some x0) else (if 0 ≤ (wrap64 ((x0.size : Int) - 1)) then (if (wrap64 ((x0.size : Int) - 1)) < (x0.size : Int) then ((spec_cronBlank.f (bt x0 (wrap64 ((x0.size : Int) - 1)))).bind fun t171 => (if t171 = true then (if (wrap64 ((x0.size : Int) - 1)) ≤ (x0.size : Int) then (spec_CronTrim.l1 k (x0.extract 0 ((wrap64 ((x0.size : Int) - 1)) : Int).toNat)) else (none)) else (some x0))) else (none)) else (none))
def spec_CronTrim.l0 : Nat → ByteArray → Option (ByteArray)
 | 0, _ => none
 | k + 1, x0 => if x0.toList = ([] : List UInt8) then (spec_CronTrim.j1 k x0) else (if 0 < (x0.size : Int) then ((spec_cronBlank.f (bt x0 0)).bind fun t170 => (if t170 = true then (if 1 ≤ (x0.size : Int) then (spec_CronTrim.l0 k (x0.extract 1 x0.size)) else (none)) else (spec_CronTrim.j1 k x0))) else (none))
end
def spec_CronTrim.f (k : Nat) (a0 : ByteArray) : Option (ByteArray) := spec_CronTrim.l0 k a0
theorem spec_CronTrim.calls (k : Nat) (a0 : ByteArray) (r : ByteArray) (w : World) (h : spec_CronTrim.f k a0 = some r) :
  Calls Tryz.prog 26 #[.string a0] w fun e w' => e = .returned (.string r) ∧ Drawn0 w w' := by
 have H : (spec_CronTrim.l0 k a0) = some r := h
 clear h
 have HC2 := Aside0.mk H
 clear H
 go_enter Tryz.func26, Tryz.ntmps26
 go_upto_block 0 with (fail)
 go_cut [0] (fun v0 wc => ∃ (kq : Nat) (x0_1 : ByteArray), v0 = .string x0_1 ∧ Aside0 (spec_CronTrim.j1 kq x0_1 = some r) ∧ Aside0 (kq ≤ k) ∧ Drawn0 w wc)
 case first =>
  have H := HC2.out
  clear HC2
  have H' := Aside0.mk H
  clear H
  go_wp2
  go_loopg [0] k (fun kq v0 w' => ∃ (x0_1 : ByteArray), v0 = .string x0_1 ∧ Aside0 (spec_CronTrim.l0 kq x0_1 = some r) ∧ Aside0 (kq ≤ k) ∧ Drawn0 w w')
  case atStart => exact ⟨(a0), (by first | rfl | simp [*]), H', ⟨Nat.le_refl _⟩, by repeat (first | exact Drawn0.refl _ | apply Drawn0.step)⟩
  case round =>
   clear H'
   obtain ⟨x0_1, rfl, HA, HK1, ⟨m1, rfl⟩⟩ := hrel
   cases gk with
   | zero => exact absurd HA.out (by simp [spec_CronTrim.l0])
   | succ k1 =>
    have H := HA.out
    clear HA
    simp only [spec_CronTrim.l0] at H
    by_cases c3 : x0_1.toList = ([] : List UInt8)
    ·rw [if_pos c3] at H
     have c3b0 : (x0_1.toList == ([] : List UInt8)) = true := beq_iff_eq.mpr c3
     (first | rw [c3b0] | (simp only [i64_w, i32_w]; rw [c3b0]) | skip)
     have H' := Aside0.mk H
     clear H
     go_wp2
     go_meet
     case rel => exact ⟨_, (x0_1), (by first | rfl | simp [*]), H', ⟨by have := HK1.out; first | omega | exact Nat.le_refl _⟩, by repeat (first | exact Drawn0.refl _ | apply Drawn0.step)⟩
    ·rw [if_neg c3] at H
     have c3b0 : (x0_1.toList == ([] : List UInt8)) = false := beq_eq_false_iff_ne.mpr c3
     (first | rw [c3b0] | (simp only [i64_w, i32_w]; rw [c3b0]) | skip)
     by_cases c4 : 0 < (x0_1.size : Int)
     ·rw [if_pos c4] at H
      have c4b0 : decide (0 < (x0_1.size : Int)) = true := decide_eq_true c4
      replace H := Option.bind_eq_some_iff.mp H
      obtain ⟨t170, A60, H⟩ := H
      replace H : (if t170 = true then (if 1 ≤ (x0_1.size : Int) then (spec_CronTrim.l0 k1 (x0_1.extract 1 x0_1.size)) else (none)) else (spec_CronTrim.j1 k1 x0_1)) = some r := H
      have A6 := Aside0.mk A60
      clear A60
      by_cases c7 : t170 = true
      ·subst c7
       have H1 : (if 1 ≤ (x0_1.size : Int) then (spec_CronTrim.l0 k1 (x0_1.extract 1 x0_1.size)) else (none)) = some r := by rw [if_pos rfl] at H; exact H
       clear H
       have H := H1
       clear H1
       by_cases c8 : 1 ≤ (x0_1.size : Int)
       ·rw [if_pos c8] at H
        have c8b0 := eq_true c8
        have H' := Aside0.mk H
        clear H
        have p5 : 0 ≤ (0 : Int) := (by omega)
        have q5 : 0 < x0_1.size := (by have : (0 : Int) < (x0_1.size : Int) := of_decide_eq_true (by assumption); omega)
        have hx5 : ∀ h : 0 < x0_1.size, ((x0_1[0]'h).toNat : Int) = bt x0_1 0 := bt_at x0_1 0
        clear p5
        have qi5 : (0 < (x0_1.size : Int)) = True := eq_true (of_decide_eq_true (by assumption))
        replace q5 := eq_true q5
        go_wp2_with (first | (go_at_call 46; (with_reducible refine (spec_cronBlank.calls (bt x0_1 0) true _ A6.out).mono ?_); rintro e w' ⟨rfl, ⟨nd, rfl⟩⟩))
        go_roundg k1
        case measure => have := HK1.out; omega
        case rel => exact ⟨(x0_1.extract 1 x0_1.size), (by first | rfl | simp [*]), H', ⟨by have := HK1.out; omega⟩, by repeat (first | exact Drawn0.refl _ | apply Drawn0.step)⟩
       ·rw [if_neg c8] at H
        exact absurd H (by simp)
      ·replace c7 := Bool.eq_false_iff.mpr c7
       subst c7
       have H1 : (spec_CronTrim.j1 k1 x0_1) = some r := by rw [if_neg (show ¬ (false = true) by decide)] at H; exact H
       clear H
       have H := H1
       clear H1
       have H' := Aside0.mk H
       clear H
       have p5 : 0 ≤ (0 : Int) := (by omega)
       have q5 : 0 < x0_1.size := (by have : (0 : Int) < (x0_1.size : Int) := of_decide_eq_true (by assumption); omega)
       have hx5 : ∀ h : 0 < x0_1.size, ((x0_1[0]'h).toNat : Int) = bt x0_1 0 := bt_at x0_1 0
       clear p5
       have qi5 : (0 < (x0_1.size : Int)) = True := eq_true (of_decide_eq_true (by assumption))
       replace q5 := eq_true q5
       go_wp2_with (first | (go_at_call 46; (with_reducible refine (spec_cronBlank.calls (bt x0_1 0) false _ A6.out).mono ?_); rintro e w' ⟨rfl, ⟨nd, rfl⟩⟩))
       go_meet
       case rel => exact ⟨_, (x0_1), (by first | rfl | simp [*]), H', ⟨by have := HK1.out; first | omega | exact Nat.le_refl _⟩, by repeat (first | exact Drawn0.refl _ | apply Drawn0.step)⟩
     ·rw [if_neg c4] at H
      exact absurd H (by simp)
 case rest =>
  clear HC2
  obtain ⟨kq, x0_1, rfl, HA, HJ1, ⟨mc1, rfl⟩⟩ := hcut
  cases kq with
  | zero => exact absurd HA.out (by simp [spec_CronTrim.j1])
  | succ kj1 =>
   have H := HA.out
   clear HA
   simp only [spec_CronTrim.j1] at H
   have H' := Aside0.mk H
   clear H
   go_wp2
   go_loopg [0] kj1 (fun kq v0 w' => ∃ (x0_2 : ByteArray), v0 = .string x0_2 ∧ Aside0 (spec_CronTrim.l1 kq x0_2 = some r) ∧ Aside0 (kq ≤ kj1) ∧ Drawn0 w w')
   case atStart => exact ⟨(x0_1), (by first | rfl | simp [*]), H', ⟨Nat.le_refl _⟩, by repeat (first | exact Drawn0.refl _ | apply Drawn0.step)⟩
   case round =>
    clear H'
    obtain ⟨x0_2, rfl, HA, HK2, ⟨m2, rfl⟩⟩ := hrel
    cases gk with
    | zero => exact absurd HA.out (by simp [spec_CronTrim.l1])
    | succ k2 =>
     have H := HA.out
     clear HA
     simp only [spec_CronTrim.l1] at H
     by_cases c9 : x0_2.toList = ([] : List UInt8)
     ·rw [if_pos c9] at H
      have c9b0 : (x0_2.toList == ([] : List UInt8)) = true := beq_iff_eq.mpr c9
      obtain rfl := Option.some.inj H
      go_wp2
      go_ret
      exact ⟨by first | rfl | simp [*], by repeat (first | exact Drawn0.refl _ | apply Drawn0.step)⟩
     ·rw [if_neg c9] at H
      have c9b0 : (x0_2.toList == ([] : List UInt8)) = false := beq_eq_false_iff_ne.mpr c9
      obtain ⟨ji10, hji10⟩ : ∃ j_ : Int, (wrap64 ((x0_2.size : Int) - 1)) = j_ := ⟨_, rfl⟩
      replace H : (if 0 ≤ (ji10) then (if (ji10) < (x0_2.size : Int) then ((spec_cronBlank.f (bt x0_2 (ji10))).bind fun t171 => (if t171 = true then (if (ji10) ≤ (x0_2.size : Int) then (spec_CronTrim.l1 k2 (x0_2.extract 0 ((ji10) : Int).toNat)) else (none)) else (some x0_2))) else (none)) else (none)) = some r := by first | (rw [hji10] at H; exact H) | (simp only [hji10] at H ⊢; exact H)
      have hji10w : (IntKind.i64.wrap ((x0_2.size : Int) - 1)) = ji10 := (i64_w _).trans hji10
      by_cases c11 : 0 ≤ (ji10)
      ·rw [if_pos c11] at H
       have c11b0 : decide (0 ≤ (ji10)) = true := decide_eq_true c11
       by_cases c12 : (ji10) < (x0_2.size : Int)
       ·rw [if_pos c12] at H
        have c12b0 : decide ((ji10) < (x0_2.size : Int)) = true := decide_eq_true c12
        replace H := Option.bind_eq_some_iff.mp H
        obtain ⟨t171, A140, H⟩ := H
        replace H : (if t171 = true then (if (ji10) ≤ (x0_2.size : Int) then (spec_CronTrim.l1 k2 (x0_2.extract 0 ((ji10) : Int).toNat)) else (none)) else (some x0_2)) = some r := H
        have A14 := Aside0.mk A140
        clear A140
        by_cases c15 : t171 = true
        ·subst c15
         have H1 : (if (ji10) ≤ (x0_2.size : Int) then (spec_CronTrim.l1 k2 (x0_2.extract 0 ((ji10) : Int).toNat)) else (none)) = some r := by rw [if_pos rfl] at H; exact H
         clear H
         have H := H1
         clear H1
         have c16b0 := eq_true (of_decide_eq_true (by assumption) : 0 ≤ (ji10))
         by_cases c17 : (ji10) ≤ (x0_2.size : Int)
         ·rw [if_pos c17] at H
          have c17b0 := eq_true c17
          have H' := Aside0.mk H
          clear H
          have p13 : 0 ≤ ((ji10) : Int) := of_decide_eq_true (by assumption)
          have q13 : (ji10) < (x0_2.size : Int) := of_decide_eq_true (by assumption)
          have hx13 := bt_at x0_2 (ji10)
          replace p13 := eq_true p13
          replace q13 := eq_true q13
          go_wp2_with (first | (go_at_call 46; (with_reducible refine (spec_cronBlank.calls (bt x0_2 (ji10)) true _ A14.out).mono ?_); rintro e w' ⟨rfl, ⟨nd, rfl⟩⟩))
          go_roundg k2
          case measure => have := HJ1.out; have := HK2.out; omega
          case rel => exact ⟨(x0_2.extract 0 ((ji10) : Int).toNat), (by first | rfl | (simp; done) | (simp only [← hji10] <;> (first | rfl | simp)) | (simp [*]; done)), H', ⟨by have := HJ1.out; have := HK2.out; omega⟩, by repeat (first | exact Drawn0.refl _ | apply Drawn0.step)⟩
         ·rw [if_neg c17] at H
          exact absurd H (by simp)
        ·replace c15 := Bool.eq_false_iff.mpr c15
         subst c15
         have H1 : (some x0_2) = some r := by rw [if_neg (show ¬ (false = true) by decide)] at H; exact H
         clear H
         have H := H1
         clear H1
         obtain rfl := Option.some.inj H
         have p13 : 0 ≤ ((ji10) : Int) := of_decide_eq_true (by assumption)
         have q13 : (ji10) < (x0_2.size : Int) := of_decide_eq_true (by assumption)
         have hx13 := bt_at x0_2 (ji10)
         replace p13 := eq_true p13
         replace q13 := eq_true q13
         go_wp2_with (first | (go_at_call 46; (with_reducible refine (spec_cronBlank.calls (bt x0_2 (ji10)) false _ A14.out).mono ?_); rintro e w' ⟨rfl, ⟨nd, rfl⟩⟩))
         go_ret
         exact ⟨by first | rfl | (simp; done) | (simp only [← hji10] <;> (first | rfl | simp)) | (simp [*]; done), by repeat (first | exact Drawn0.refl _ | apply Drawn0.step)⟩
       ·rw [if_neg c12] at H
        exact absurd H (by simp)
      ·rw [if_neg c11] at H
       exact absurd H (by simp)
def stringslite_HasPrefix.f (a0 : ByteArray) (a1 : ByteArray) : Option (Bool) := if (a0.size : Int) ≥ (a1.size : Int) then (if 0 ≤ (a1.size : Int) then (if (a1.size : Int) ≤ (a0.size : Int) then (some ((a0.extract 0 ((a1.size : Int) : Int).toNat).toList == a1.toList)) else (none)) else (none)) else (some false)
theorem stringslite_HasPrefix.calls (a0 : ByteArray) (a1 : ByteArray) (r : Bool) (w : World) (h : stringslite_HasPrefix.f a0 a1 = some r) :
  Calls Tryz.prog 85 #[.string a0, .string a1] w fun e w' => e = .returned (.bool r) ∧ Drawn0 w w' := by
 have H : (if (a0.size : Int) ≥ (a1.size : Int) then (if 0 ≤ (a1.size : Int) then (if (a1.size : Int) ≤ (a0.size : Int) then (some ((a0.extract 0 ((a1.size : Int) : Int).toNat).toList == a1.toList)) else (none)) else (none)) else (some false)) = some r := h
 clear h
 by_cases c3 : (a0.size : Int) ≥ (a1.size : Int)
 ·rw [if_pos c3] at H
  have c3b0 : decide ((a1.size : Int) ≤ (a0.size : Int)) = true := decide_eq_true c3
  have c3b1 : decide (a1.size ≤ a0.size) = true := decide_eq_true (Int.ofNat_le.mp c3)
  by_cases c4 : 0 ≤ (a1.size : Int)
  ·rw [if_pos c4] at H
   have c4b0 := eq_true c4
   have c4b1 : decide (0 ≤ (a1.size : Int)) = true := decide_eq_true c4
   by_cases c5 : (a1.size : Int) ≤ (a0.size : Int)
   ·rw [if_pos c5] at H
    have c5b0 := eq_true c5
    have c5b1 : decide ((a1.size : Int) ≤ (a0.size : Int)) = true := decide_eq_true c5
    obtain rfl := Option.some.inj H
    go_enter Tryz.func85, Tryz.ntmps85
    go_wp2
    go_ret
    exact ⟨by first | rfl | simp [*], by repeat (first | exact Drawn0.refl _ | apply Drawn0.step)⟩
   ·rw [if_neg c5] at H
    exact absurd H (by simp)
  ·rw [if_neg c4] at H
   exact absurd H (by simp)
 ·rw [if_neg c3] at H
  have c3b0 : decide ((a1.size : Int) ≤ (a0.size : Int)) = false := decide_eq_false c3
  have c3b1 : decide (a1.size ≤ a0.size) = false := decide_eq_false (fun h => c3 (Int.ofNat_le.mpr h))
  obtain rfl := Option.some.inj H
  go_enter Tryz.func85, Tryz.ntmps85
  go_wp2
  go_ret
  exact ⟨by first | rfl | simp [*], by repeat (first | exact Drawn0.refl _ | apply Drawn0.step)⟩
def strings_HasPrefix.f (a0 : ByteArray) (a1 : ByteArray) : Option (Bool) := (stringslite_HasPrefix.f a0 a1).bind fun t175 => (some t175)
theorem strings_HasPrefix.calls (a0 : ByteArray) (a1 : ByteArray) (r : Bool) (w : World) (h : strings_HasPrefix.f a0 a1 = some r) :
  Calls Tryz.prog 50 #[.string a0, .string a1] w fun e w' => e = .returned (.bool r) ∧ Drawn0 w w' := by
 have H : ((stringslite_HasPrefix.f a0 a1).bind fun t175 => (some t175)) = some r := h
 clear h
 replace H := Option.bind_eq_some_iff.mp H
 obtain ⟨t175, A30, H⟩ := H
 replace H : (some t175) = some r := H
 have A3 := Aside0.mk A30
 clear A30
 obtain rfl := Option.some.inj H
 go_enter Tryz.func50, Tryz.ntmps50
 go_wp2_with (first | ((with_reducible refine gate_callee (f := 85) rfl ?_); refine goesL_ (some 7) rfl rfl Tryz.func85 (by kernel_rfl) rfl #[.string a0, .string a1] rfl (by (try simp only [List.map_toArray, List.map_cons, List.map_nil]); first | done | rfl | (simp only [List.length_drop, List.length_take]; rfl)) ?_; (with_reducible refine (stringslite_HasPrefix.calls a0 a1 t175 _ A3.out).mono ?_); rintro e w' ⟨rfl, ⟨nd, rfl⟩⟩; refine ⟨_, rfl, ?_⟩))
 go_ret
 exact ⟨by first | rfl | simp [*], by repeat (first | exact Drawn0.refl _ | apply Drawn0.step)⟩
end Go.Proofs.YtcjdideliifkhaaGreatDoor.PFnCronTextAfterAnywhere
