import Derived.Test.YtcjdideliifkhaaGreatDoorA08
set_option maxRecDepth 100000
set_option maxHeartbeats 16000000
namespace Go.Proofs.YtcjdideliifkhaaGreatDoor.PFnCronTextAfterAnywhere
open Go.RowKit Go.Proofs.YtcjdideliifkhaaGreatDoorW.PrintWords Go.Proofs.YtcjdideliifkhaaGreatDoorW.PrintLast Go.Proofs.YtcjdideliifkhaaGreatDoorW.PrintMore
attribute [local go_sem] max2_int min2_int max_two min_two max_three min_three max_four min_four
set_option linter.unusedVariables false
set_option linter.unusedSimpArgs false
mutual
def spec_CronDateOf.j0 : Nat → Int → Int → Option (Int × Int × Int)
 | 0, _, _ => none
 | k + 1, x0, x3 => spec_CronDateOf.l0 k x0 x3
def spec_CronDateOf.l0 : Nat → Int → Int → Option (Int × Int × Int)
 | 0, _, _ => none
 | k + 1, x0, x3 => (spec_CronYearStart.f (wrap64 (x3 + 1))).bind fun t198 => (if t198 ≤ x0 then (spec_CronDateOf.l0 k x0 (wrap64 (x3 + 1))) else ((spec_CronYearStart.f x3).bind fun t199 => (spec_CronDateOf.l1 k x3 (wrap64 (x0 - t199)) 1)))
def spec_CronDateOf.l1 : Nat → Int → Int → Int → Option (Int × Int × Int)
 | 0, _, _, _ => none
 | k + 1, x3, x4, x5 => (spec_CronMonthDays.f x3 x5).bind fun t200 => (if x4 ≥ t200 then ((spec_CronMonthDays.f x3 x5).bind fun t201 => (spec_CronDateOf.l1 k x3 (wrap64 (x4 - t201)) (wrap64 (x5 + 1)))) else (some (x3, x5, wrap64 (x4 + 1))))
end
def spec_CronDateOf.f (k : Nat) (a0 : Int) : Option (Int × Int × Int) := (spec_floorDiv.f a0 366).bind fun t196 => (if a0 < 0 then ((spec_floorDiv.f a0 365).bind fun t197 => (spec_CronDateOf.j0 k a0 (wrap64 ((wrap64 (1970 + t197)) - 1)))) else (spec_CronDateOf.j0 k a0 (wrap64 (1970 + t196))))
theorem spec_CronDateOf.calls (k : Nat) (a0 : Int) (r1 : Int) (r2 : Int) (r3 : Int) (w : World) (h : spec_CronDateOf.f k a0 = some (r1, r2, r3)) :
  Calls Tryz.prog 70 #[.int .i64 a0] w fun e w' => e = .returned (.agg #[.int .i64 r1, .int .i64 r2, .int .i64 r3]) ∧ Below w.heap.size w w' := by
 have hu135 := Tryz.underlying135
 have HB := Aside0.mk (Below.refl w.heap.size w)
 have H : ((spec_floorDiv.f a0 366).bind fun t196 => (if a0 < 0 then ((spec_floorDiv.f a0 365).bind fun t197 => (spec_CronDateOf.j0 k a0 (wrap64 ((wrap64 (1970 + t197)) - 1)))) else (spec_CronDateOf.j0 k a0 (wrap64 (1970 + t196))))) = some (r1, r2, r3) := h
 clear h
 replace H := Option.bind_eq_some_iff.mp H
 obtain ⟨t196, A20, H⟩ := H
 replace H : (if a0 < 0 then ((spec_floorDiv.f a0 365).bind fun t197 => (spec_CronDateOf.j0 k a0 (wrap64 ((wrap64 (1970 + t197)) - 1)))) else (spec_CronDateOf.j0 k a0 (wrap64 (1970 + t196)))) = some (r1, r2, r3) := H
 have A2 := Aside0.mk A20
 clear A20
 have HC3 := Aside0.mk H
 clear H
 go_enter Tryz.func70, Tryz.ntmps70
 go_upto_if 10 with (first | ((with_reducible refine gate_dst (N := 2) rfl ?_); refine box_event ?hg (N := 2) ?hd (cs := #[.int .i64 0, .int .i64 0, .int .i64 0]) (t := 135) ?hr ?_; (case hd => rfl); (case hg => rfl); (case hr => first | (go_simp; done) | (go_simp; rfl)); intro gb195 hg w4 hbox hb; have n0_ := Aside0.mk (below_step (by repeat (first | (with_reducible first | exact HB.out | apply below_alloc | apply pw_below_drewN | apply below_drew1) | exact HB.out)) hb); have n1_ := Aside0.mk (hbox); have n2_ := Aside0.mk ((by rw [hg]; exact (below_size (by repeat (first | (with_reducible first | exact HB.out | apply below_alloc | apply pw_below_drewN | apply below_drew1) | exact HB.out))) : w.heap.size ≤ gb195)); have n3_ := Aside0.mk ((by rw [hg]; exact (below_size (by repeat (first | (with_reducible first | exact HB.out | apply below_alloc | apply pw_below_drewN | apply below_drew1) | exact HB.out))) : w.heap.size ≤ gb195)); clear HB; have HB := n0_; have BK195 := n1_; have GW195 := n2_; have GE195 := n3_; clear n0_ n1_ n2_ n3_; clear hb hbox hg) | ((with_reducible refine gate_callee (f := 71) rfl ?_); refine goesL_ (some 7) rfl rfl Tryz.func71 (by kernel_rfl) rfl #[.int .i64 a0, .int .i64 366] rfl (by (try simp only [List.map_toArray, List.map_cons, List.map_nil]); first | done | rfl | (simp only [List.length_drop, List.length_take]; rfl)) ?_; (with_reducible refine (spec_floorDiv.calls a0 366 t196 _ A2.out).mono ?_); rintro e w' ⟨rfl, ⟨nd, rfl⟩⟩; refine ⟨_, rfl, ?_⟩))
 go_cut [3] (fun v3 wc => ∃ (kq : Nat) (x3_2 : Int), v3 = .int .i64 x3_2 ∧ Aside0 (spec_CronDateOf.j0 kq a0 x3_2 = some (r1, r2, r3)) ∧ Aside0 (kq ≤ k) ∧ Aside0 (wc.heap[gb195]? = some (.cells #[.int .i64 0, .int .i64 0, .int .i64 0] 135 (0, 0))) ∧ Aside0 (Below w.heap.size w wc))
 case first =>
  have H := HC3.out
  clear HC3
  by_cases c5 : a0 < 0
  ·rw [if_pos c5] at H
   have c5b0 : decide (a0 < 0) = true := decide_eq_true c5
   (first | rw [c5b0] | (simp only [i64_w, i32_w]; rw [c5b0]) | skip)
   replace H := Option.bind_eq_some_iff.mp H
   obtain ⟨t197, A60, H⟩ := H
   replace H : (spec_CronDateOf.j0 k a0 (wrap64 ((wrap64 (1970 + t197)) - 1))) = some (r1, r2, r3) := H
   have A6 := Aside0.mk A60
   clear A60
   have H' := Aside0.mk H
   clear H
   go_wp2_with (first | ((with_reducible refine gate_callee (f := 71) rfl ?_); refine goesL_ (some 12) rfl rfl Tryz.func71 (by kernel_rfl) rfl #[.int .i64 a0, .int .i64 365] rfl (by (try simp only [List.map_toArray, List.map_cons, List.map_nil]); first | done | rfl | (simp only [List.length_drop, List.length_take]; rfl)) ?_; (with_reducible refine (spec_floorDiv.calls a0 365 t197 _ A6.out).mono ?_); rintro e w' ⟨rfl, ⟨nd, rfl⟩⟩; refine ⟨_, rfl, ?_⟩))
   go_meet
   case rel => exact ⟨_, (wrap64 ((wrap64 (1970 + t197)) - 1)), (by first | rfl | simp [*]), H', ⟨by first | omega | exact Nat.le_refl _⟩, ⟨by (with_reducible repeat (first | refine blk_drewN ?_ _ | refine blk_drew ?_ | refine blk_alloc ?_ _)); exact BK195.out⟩, ⟨by repeat (first | (with_reducible first | exact HB.out | apply below_alloc | apply pw_below_drewN | apply below_drew1 | refine below_set ?_ GE195.out) | exact HB.out)⟩⟩
  ·rw [if_neg c5] at H
   have c5b0 : decide (a0 < 0) = false := decide_eq_false c5
   (first | rw [c5b0] | (simp only [i64_w, i32_w]; rw [c5b0]) | skip)
   have H' := Aside0.mk H
   clear H
   go_wp2
   go_meet
   case rel => exact ⟨_, (wrap64 (1970 + t196)), (by first | rfl | simp [*]), H', ⟨by first | omega | exact Nat.le_refl _⟩, ⟨by (with_reducible repeat (first | refine blk_drewN ?_ _ | refine blk_drew ?_ | refine blk_alloc ?_ _)); exact BK195.out⟩, ⟨by repeat (first | (with_reducible first | exact HB.out | apply below_alloc | apply pw_below_drewN | apply below_drew1 | refine below_set ?_ GE195.out) | exact HB.out)⟩⟩
 case rest =>
  clear HC3
  obtain ⟨kq, x3_2, rfl, HA, HJ2, BK195, HB⟩ := hcut
  cases kq with
  | zero => exact absurd HA.out (by simp [spec_CronDateOf.j0])
  | succ kj2 =>
   have H := HA.out
   clear HA
   simp only [spec_CronDateOf.j0] at H
   have H' := Aside0.mk H
   clear H
   go_wp2
   go_loopg [3] kj2 (fun kq v3 w' => ∃ (x3_2 : Int), v3 = .int .i64 x3_2 ∧ Aside0 (spec_CronDateOf.l0 kq a0 x3_2 = some (r1, r2, r3)) ∧ Aside0 (kq ≤ kj2) ∧ Aside0 (w'.heap[gb195]? = some (.cells #[.int .i64 0, .int .i64 0, .int .i64 0] 135 (0, 0))) ∧ Aside0 (Below w.heap.size w w'))
   case atStart => exact ⟨(x3_2), (by first | rfl | simp [*]), H', ⟨Nat.le_refl _⟩, ⟨by (with_reducible repeat (first | refine blk_drewN ?_ _ | refine blk_drew ?_ | refine blk_alloc ?_ _)); exact BK195.out⟩, ⟨by repeat (first | (with_reducible first | exact HB.out | apply below_alloc | apply pw_below_drewN | apply below_drew1 | refine below_set ?_ GE195.out) | exact HB.out)⟩⟩
   case round =>
    clear H'
    obtain ⟨x3_2, rfl, HA, HK2, BK195, HB⟩ := hrel
    cases gk with
    | zero => exact absurd HA.out (by simp [spec_CronDateOf.l0])
    | succ k2 =>
     have H := HA.out
     clear HA
     simp only [spec_CronDateOf.l0] at H
     replace H := Option.bind_eq_some_iff.mp H
     obtain ⟨t198, A70, H⟩ := H
     replace H : (if t198 ≤ a0 then (spec_CronDateOf.l0 k2 a0 (wrap64 (x3_2 + 1))) else ((spec_CronYearStart.f x3_2).bind fun t199 => (spec_CronDateOf.l1 k2 x3_2 (wrap64 (a0 - t199)) 1))) = some (r1, r2, r3) := H
     have A7 := Aside0.mk A70
     clear A70
     by_cases c8 : t198 ≤ a0
     ·rw [if_pos c8] at H
      have c8b0 : decide (t198 ≤ a0) = true := decide_eq_true c8
      have H' := Aside0.mk H
      clear H
      go_wp2_with (first | ((with_reducible refine gate_callee (f := 101) rfl ?_); refine goesL_ (some 17) rfl rfl Tryz.func101 (by kernel_rfl) rfl #[.int .i64 (wrap64 (x3_2 + 1))] rfl (by (try simp only [List.map_toArray, List.map_cons, List.map_nil]); first | done | rfl | (simp only [List.length_drop, List.length_take]; rfl)) ?_; (with_reducible refine (spec_CronYearStart.calls (wrap64 (x3_2 + 1)) t198 _ A7.out).mono ?_); rintro e w' ⟨rfl, ⟨nd, rfl⟩⟩; refine ⟨_, rfl, ?_⟩))
      go_roundg k2
      case measure => have := HJ2.out; have := HK2.out; omega
      case rel => exact ⟨(wrap64 (x3_2 + 1)), (by first | rfl | simp [*]), H', ⟨by have := HJ2.out; have := HK2.out; omega⟩, ⟨by (with_reducible repeat (first | refine blk_drewN ?_ _ | refine blk_drew ?_ | refine blk_alloc ?_ _)); exact BK195.out⟩, ⟨by repeat (first | (with_reducible first | exact HB.out | apply below_alloc | apply pw_below_drewN | apply below_drew1 | refine below_set ?_ GE195.out) | exact HB.out)⟩⟩
     ·rw [if_neg c8] at H
      have c8b0 : decide (t198 ≤ a0) = false := decide_eq_false c8
      replace H := Option.bind_eq_some_iff.mp H
      obtain ⟨t199, A90, H⟩ := H
      replace H : (spec_CronDateOf.l1 k2 x3_2 (wrap64 (a0 - t199)) 1) = some (r1, r2, r3) := H
      have A9 := Aside0.mk A90
      clear A90
      have H' := Aside0.mk H
      clear H
      go_wp2_with (first | ((with_reducible refine gate_callee (f := 101) rfl ?_); refine goesL_ (some 17) rfl rfl Tryz.func101 (by kernel_rfl) rfl #[.int .i64 (wrap64 (x3_2 + 1))] rfl (by (try simp only [List.map_toArray, List.map_cons, List.map_nil]); first | done | rfl | (simp only [List.length_drop, List.length_take]; rfl)) ?_; (with_reducible refine (spec_CronYearStart.calls (wrap64 (x3_2 + 1)) t198 _ A7.out).mono ?_); rintro e w' ⟨rfl, ⟨nd, rfl⟩⟩; refine ⟨_, rfl, ?_⟩) | ((with_reducible refine gate_callee (f := 101) rfl ?_); refine goesL_ (some 24) rfl rfl Tryz.func101 (by kernel_rfl) rfl #[.int .i64 x3_2] rfl (by (try simp only [List.map_toArray, List.map_cons, List.map_nil]); first | done | rfl | (simp only [List.length_drop, List.length_take]; rfl)) ?_; (with_reducible refine (spec_CronYearStart.calls x3_2 t199 _ A9.out).mono ?_); rintro e w' ⟨rfl, ⟨nd, rfl⟩⟩; refine ⟨_, rfl, ?_⟩))
      go_loopg [4, 5] k2 (fun kq v4 v5 w' => ∃ (x4_3 : Int) (x5_3 : Int), v4 = .int .i64 x4_3 ∧ v5 = .int .i64 x5_3 ∧ Aside0 (spec_CronDateOf.l1 kq x3_2 x4_3 x5_3 = some (r1, r2, r3)) ∧ Aside0 (kq ≤ k2) ∧ Aside0 (w'.heap[gb195]? = some (.cells #[.int .i64 0, .int .i64 0, .int .i64 0] 135 (0, 0))) ∧ Aside0 (Below w.heap.size w w'))
      case atStart => exact ⟨(wrap64 (a0 - t199)), (1), (by first | rfl | simp [*]), (by first | rfl | simp [*]), H', ⟨Nat.le_refl _⟩, ⟨by (with_reducible repeat (first | refine blk_drewN ?_ _ | refine blk_drew ?_ | refine blk_alloc ?_ _)); exact BK195.out⟩, ⟨by repeat (first | (with_reducible first | exact HB.out | apply below_alloc | apply pw_below_drewN | apply below_drew1 | refine below_set ?_ GE195.out) | exact HB.out)⟩⟩
      case round =>
       clear H'
       obtain ⟨x4_3, x5_3, rfl, rfl, HA, HK3, BK195, HB⟩ := hrel
       cases gk with
       | zero => exact absurd HA.out (by simp [spec_CronDateOf.l1])
       | succ k3 =>
        have H := HA.out
        clear HA
        simp only [spec_CronDateOf.l1] at H
        replace H := Option.bind_eq_some_iff.mp H
        obtain ⟨t200, A100, H⟩ := H
        replace H : (if x4_3 ≥ t200 then ((spec_CronMonthDays.f x3_2 x5_3).bind fun t201 => (spec_CronDateOf.l1 k3 x3_2 (wrap64 (x4_3 - t201)) (wrap64 (x5_3 + 1)))) else (some (x3_2, x5_3, wrap64 (x4_3 + 1)))) = some (r1, r2, r3) := H
        have A10 := Aside0.mk A100
        clear A100
        by_cases c11 : x4_3 ≥ t200
        ·rw [if_pos c11] at H
         have c11b0 : decide (t200 ≤ x4_3) = true := decide_eq_true c11
         replace H := Option.bind_eq_some_iff.mp H
         obtain ⟨t201, A120, H⟩ := H
         replace H : (spec_CronDateOf.l1 k3 x3_2 (wrap64 (x4_3 - t201)) (wrap64 (x5_3 + 1))) = some (r1, r2, r3) := H
         have A12 := Aside0.mk A120
         clear A120
         have H' := Aside0.mk H
         clear H
         go_wp2_with (first | ((with_reducible refine gate_callee (f := 102) rfl ?_); refine goesL_ (some 29) rfl rfl Tryz.func102 (by kernel_rfl) rfl #[.int .i64 x3_2, .int .i64 x5_3] rfl (by (try simp only [List.map_toArray, List.map_cons, List.map_nil]); first | done | rfl | (simp only [List.length_drop, List.length_take]; rfl)) ?_; (with_reducible refine (spec_CronMonthDays.calls x3_2 x5_3 t200 _ A10.out).mono ?_); rintro e w' ⟨rfl, ⟨nd, rfl⟩⟩; refine ⟨_, rfl, ?_⟩) | ((with_reducible refine gate_callee (f := 102) rfl ?_); refine goesL_ (some 34) rfl rfl Tryz.func102 (by kernel_rfl) rfl #[.int .i64 x3_2, .int .i64 x5_3] rfl (by (try simp only [List.map_toArray, List.map_cons, List.map_nil]); first | done | rfl | (simp only [List.length_drop, List.length_take]; rfl)) ?_; (with_reducible refine (spec_CronMonthDays.calls x3_2 x5_3 t201 _ A12.out).mono ?_); rintro e w' ⟨rfl, ⟨nd, rfl⟩⟩; refine ⟨_, rfl, ?_⟩))
         go_roundg k3
         case measure => have := HJ2.out; have := HK2.out; have := HK3.out; omega
         case rel => exact ⟨(wrap64 (x4_3 - t201)), (wrap64 (x5_3 + 1)), (by first | rfl | simp [*]), (by first | rfl | simp [*]), H', ⟨by have := HJ2.out; have := HK2.out; have := HK3.out; omega⟩, ⟨by (with_reducible repeat (first | refine blk_drewN ?_ _ | refine blk_drew ?_ | refine blk_alloc ?_ _)); exact BK195.out⟩, ⟨by repeat (first | (with_reducible first | exact HB.out | apply below_alloc | apply pw_below_drewN | apply below_drew1 | refine below_set ?_ GE195.out) | exact HB.out)⟩⟩
        ·rw [if_neg c11] at H
         have c11b0 : decide (t200 ≤ x4_3) = false := decide_eq_false c11
         simp only [Option.some.injEq, Prod.mk.injEq] at H
         obtain ⟨rfl, rfl, rfl⟩ := H
         go_wp2_with (first | ((with_reducible refine gate_callee (f := 102) rfl ?_); refine goesL_ (some 29) rfl rfl Tryz.func102 (by kernel_rfl) rfl #[.int .i64 x3_2, .int .i64 x5_3] rfl (by (try simp only [List.map_toArray, List.map_cons, List.map_nil]); first | done | rfl | (simp only [List.length_drop, List.length_take]; rfl)) ?_; (with_reducible refine (spec_CronMonthDays.calls x3_2 x5_3 t200 _ A10.out).mono ?_); rintro e w' ⟨rfl, ⟨nd, rfl⟩⟩; refine ⟨_, rfl, ?_⟩; (try (rw [drewN_self wr]; generalize hq_ : World.drewN wr _ = wr; have n0_ : Aside0 (wr.heap[gb195]? = some (.cells #[.int .i64 0, .int .i64 0, .int .i64 0] 135 (0, 0))) := ⟨by rw [← hq_]; exact (by (with_reducible repeat (first | refine blk_drewN ?_ _ | refine blk_drew ?_ | refine blk_alloc ?_ _)); exact BK195.out)⟩; have n1_ : Aside0 (Below w.heap.size w wr) := ⟨by rw [← hq_]; exact (by repeat (first | (with_reducible first | exact HB.out | apply below_alloc | apply pw_below_drewN | apply below_drew1 | refine below_set ?_ GE195.out) | exact HB.out))⟩; clear BK195 HB hq_; have BK195 := n0_; have HB := n1_; clear n0_ n1_)); have hcz13_0 : wr.cell? ⟨gb195, 0, none⟩ = some (.int .i64 0) := (blk_cell BK195.out 0).trans rfl; have hcz13_1 : wr.cell? ⟨gb195, 1, none⟩ = some (.int .i64 0) := (blk_cell BK195.out 1).trans rfl; have hcz13_2 : wr.cell? ⟨gb195, 2, none⟩ = some (.int .i64 0) := (blk_cell BK195.out 2).trans rfl; have hfz13_0 := blk_frozen BK195.out 0; have hfz13_1 := blk_frozen BK195.out 1; have hfz13_2 := blk_frozen BK195.out 2))
         refine bodyPost_ret (results_cell_row rfl _ _ gb195 135 #[.int .i64 x3_2, .int .i64 x5_3, .int .i64 (wrap64 (x4_3 + 1))] (0, 0) _ rfl (by (with_reducible repeat (first | refine blk_drewN ?_ _ | refine blk_drew ?_ | refine blk_alloc ?_ _)); refine blk_put (cs := #[.int .i64 x3_2, .int .i64 x5_3, .int .i64 0]) ?_ 2 _ rfl; (with_reducible repeat (first | refine blk_drewN ?_ _ | refine blk_drew ?_ | refine blk_alloc ?_ _)); refine blk_put (cs := #[.int .i64 x3_2, .int .i64 0, .int .i64 0]) ?_ 1 _ rfl; (with_reducible repeat (first | refine blk_drewN ?_ _ | refine blk_drew ?_ | refine blk_alloc ?_ _)); refine blk_put (cs := #[.int .i64 0, .int .i64 0, .int .i64 0]) ?_ 0 _ rfl; (with_reducible repeat (first | refine blk_drewN ?_ _ | refine blk_drew ?_ | refine blk_alloc ?_ _)); exact BK195.out) Tryz.underlying135 rfl (by kernel_rfl)) rfl ?_
         exact ⟨by first | rfl | (simp [errW_none, errW_some] <;> rfl) | (simp [*, errW_none, errW_some] <;> rfl), by repeat (first | (with_reducible first | exact HB.out | apply below_alloc | apply pw_below_drewN | apply below_drew1 | refine below_set ?_ GE195.out) | exact HB.out)⟩
def spec_floorMod.f (a0 : Int) (a1 : Int) : Option (Int) := (spec_floorDiv.f a0 a1).bind fun t211 => (some (wrap64 (a0 - (wrap64 (a1 * t211)))))
theorem spec_floorMod.calls (a0 : Int) (a1 : Int) (r : Int) (w : World) (h : spec_floorMod.f a0 a1 = some r) :
  Calls Tryz.prog 130 #[.int .i64 a0, .int .i64 a1] w fun e w' => e = .returned (.int .i64 r) ∧ Drawn0 w w' := by
 have H : ((spec_floorDiv.f a0 a1).bind fun t211 => (some (wrap64 (a0 - (wrap64 (a1 * t211)))))) = some r := h
 clear h
 replace H := Option.bind_eq_some_iff.mp H
 obtain ⟨t211, A30, H⟩ := H
 replace H : (some (wrap64 (a0 - (wrap64 (a1 * t211))))) = some r := H
 have A3 := Aside0.mk A30
 clear A30
 obtain rfl := Option.some.inj H
 go_enter Tryz.func130, Tryz.ntmps130
 go_wp2_with (first | ((with_reducible refine gate_callee (f := 71) rfl ?_); refine goesL_ (some 9) rfl rfl Tryz.func71 (by kernel_rfl) rfl #[.int .i64 a0, .int .i64 a1] rfl (by (try simp only [List.map_toArray, List.map_cons, List.map_nil]); first | done | rfl | (simp only [List.length_drop, List.length_take]; rfl)) ?_; (with_reducible refine (spec_floorDiv.calls a0 a1 t211 _ A3.out).mono ?_); rintro e w' ⟨rfl, ⟨nd, rfl⟩⟩; refine ⟨_, rfl, ?_⟩))
 go_ret
 exact ⟨by first | rfl | simp [*], by repeat (first | exact Drawn0.refl _ | apply Drawn0.step)⟩
def spec_CronWeekday.f (a0 : Int) : Option (Int) := (spec_floorMod.f (wrap64 (a0 + 4)) 7).bind fun t212 => (some t212)
theorem spec_CronWeekday.calls (a0 : Int) (r : Int) (w : World) (h : spec_CronWeekday.f a0 = some r) :
  Calls Tryz.prog 106 #[.int .i64 a0] w fun e w' => e = .returned (.int .i64 r) ∧ Drawn0 w w' := by
 have H : ((spec_floorMod.f (wrap64 (a0 + 4)) 7).bind fun t212 => (some t212)) = some r := h
 clear h
 replace H := Option.bind_eq_some_iff.mp H
 obtain ⟨t212, A20, H⟩ := H
 replace H : (some t212) = some r := H
 have A2 := Aside0.mk A20
 clear A20
 obtain rfl := Option.some.inj H
 go_enter Tryz.func106, Tryz.ntmps106
 go_wp2_with (first | ((with_reducible refine gate_callee (f := 130) rfl ?_); refine goesL_ (some 5) rfl rfl Tryz.func130 (by kernel_rfl) rfl #[.int .i64 (wrap64 (a0 + 4)), .int .i64 7] rfl (by (try simp only [List.map_toArray, List.map_cons, List.map_nil]); first | done | rfl | (simp only [List.length_drop, List.length_take]; rfl)) ?_; (with_reducible refine (spec_floorMod.calls (wrap64 (a0 + 4)) 7 t212 _ A2.out).mono ?_); rintro e w' ⟨rfl, ⟨nd, rfl⟩⟩; refine ⟨_, rfl, ?_⟩))
 go_ret
 exact ⟨by first | rfl | simp [*], by repeat (first | exact Drawn0.refl _ | apply Drawn0.step)⟩
attribute [local go_sem] max2_int min2_int max_two min_two max_three min_three max_four min_four
def spec_cronUnit.j0 : Nat → ByteArray → Bool → Option (Int × Int)
 | 0, _, _ => none
 | k + 1, x4, x7 => if x7 = true then (some (1000, 3)) else (if x4.toList = ([109, 115] : List UInt8) then (some (1000000, 6)) else (if x4.toList = ([115] : List UInt8) then (some (1000000000, 9)) else (if x4.toList = ([109] : List UInt8) then (some (60000000000, 10)) else (if x4.toList = ([104] : List UInt8) then (some (3600000000000, 11)) else (some (0, 0))))))
def spec_cronUnit.f (k : Nat) (a0 : ByteArray) : Option (Int × Int) := if a0.toList = ([110, 115] : List UInt8) then (some (1, 0)) else (if a0.toList = ([117, 115] : List UInt8) then (spec_cronUnit.j0 k a0 (a0.toList == ([117, 115] : List UInt8))) else (if a0.toList = ([194, 181, 115] : List UInt8) then (spec_cronUnit.j0 k a0 (a0.toList == ([194, 181, 115] : List UInt8))) else (spec_cronUnit.j0 k a0 (a0.toList == ([206, 188, 115] : List UInt8)))))
theorem spec_cronUnit.calls (k : Nat) (a0 : ByteArray) (r1 : Int) (r2 : Int) (w : World) (h : spec_cronUnit.f k a0 = some (r1, r2)) :
  Calls Tryz.prog 142 #[.string a0] w fun e w' => e = .returned (.tuple #[.int .i64 r1, .int .i64 r2]) ∧ Drawn0 w w' := by
 have H : (if a0.toList = ([110, 115] : List UInt8) then (some (1, 0)) else (if a0.toList = ([117, 115] : List UInt8) then (spec_cronUnit.j0 k a0 (a0.toList == ([117, 115] : List UInt8))) else (if a0.toList = ([194, 181, 115] : List UInt8) then (spec_cronUnit.j0 k a0 (a0.toList == ([194, 181, 115] : List UInt8))) else (spec_cronUnit.j0 k a0 (a0.toList == ([206, 188, 115] : List UInt8)))))) = some (r1, r2) := h
 clear h
 by_cases c2 : a0.toList = ([110, 115] : List UInt8)
 ·rw [if_pos c2] at H
  have c2b0 : (a0.toList == ([110, 115] : List UInt8)) = true := beq_iff_eq.mpr c2
  simp only [Option.some.injEq, Prod.mk.injEq] at H
  obtain ⟨rfl, rfl⟩ := H
  go_enter Tryz.func142, Tryz.ntmps142
  go_wp2
  go_ret2
  exact ⟨by first | rfl | simp [*], by repeat (first | exact Drawn0.refl _ | apply Drawn0.step)⟩
 ·rw [if_neg c2] at H
  have c2b0 : (a0.toList == ([110, 115] : List UInt8)) = false := beq_eq_false_iff_ne.mpr c2
  have HC3 := Aside0.mk H
  clear H
  go_enter Tryz.func142, Tryz.ntmps142
  go_upto_if 7 with (fail)
  go_cut [7] (fun v7 wc => ∃ (kq : Nat) (x7_2 : Bool), v7 = .bool x7_2 ∧ Aside0 (spec_cronUnit.j0 kq a0 x7_2 = some (r1, r2)) ∧ Aside0 (kq ≤ k) ∧ Drawn0 w wc)
  case first =>
   have H := HC3.out
   clear HC3
   by_cases c4 : a0.toList = ([117, 115] : List UInt8)
   ·rw [if_pos c4] at H
    have c4b0 : (a0.toList == ([117, 115] : List UInt8)) = true := beq_iff_eq.mpr c4
    (first | rw [c4b0] | (simp only [i64_w, i32_w]; rw [c4b0]) | skip)
    have H' := Aside0.mk H
    clear H
    go_wp2
    go_meet
    case rel => exact ⟨_, ((a0.toList == ([117, 115] : List UInt8))), (by first | rfl | simp [*]), H', ⟨by first | omega | exact Nat.le_refl _⟩, by repeat (first | exact Drawn0.refl _ | apply Drawn0.step)⟩
   ·rw [if_neg c4] at H
    have c4b0 : (a0.toList == ([117, 115] : List UInt8)) = false := beq_eq_false_iff_ne.mpr c4
    (first | rw [c4b0] | (simp only [i64_w, i32_w]; rw [c4b0]) | skip)
    by_cases c5 : a0.toList = ([194, 181, 115] : List UInt8)
    ·rw [if_pos c5] at H
     have c5b0 : (a0.toList == ([194, 181, 115] : List UInt8)) = true := beq_iff_eq.mpr c5
     have H' := Aside0.mk H
     clear H
     go_wp2
     go_meet
     case rel => exact ⟨_, ((a0.toList == ([194, 181, 115] : List UInt8))), (by first | rfl | simp [*]), H', ⟨by first | omega | exact Nat.le_refl _⟩, by repeat (first | exact Drawn0.refl _ | apply Drawn0.step)⟩
    ·rw [if_neg c5] at H
     have c5b0 : (a0.toList == ([194, 181, 115] : List UInt8)) = false := beq_eq_false_iff_ne.mpr c5
     have H' := Aside0.mk H
     clear H
     go_wp2
     go_meet
     case rel => exact ⟨_, ((a0.toList == ([206, 188, 115] : List UInt8))), (by first | rfl | simp [*]), H', ⟨by first | omega | exact Nat.le_refl _⟩, by repeat (first | exact Drawn0.refl _ | apply Drawn0.step)⟩
  case rest =>
   clear HC3
   obtain ⟨kq, x7_2, rfl, HA, HJ2, ⟨mc2, rfl⟩⟩ := hcut
   cases kq with
   | zero => exact absurd HA.out (by simp [spec_cronUnit.j0])
   | succ kj2 =>
    have H := HA.out
    clear HA
    simp only [spec_cronUnit.j0] at H
    by_cases c6 : x7_2 = true
    ·subst c6
     have H1 : (some (1000, 3)) = some (r1, r2) := by rw [if_pos rfl] at H; exact H
     clear H
     have H := H1
     clear H1
     simp only [Option.some.injEq, Prod.mk.injEq] at H
     obtain ⟨rfl, rfl⟩ := H
     go_wp2
     go_ret2
     exact ⟨by first | rfl | simp [*], by repeat (first | exact Drawn0.refl _ | apply Drawn0.step)⟩
    ·replace c6 := Bool.eq_false_iff.mpr c6
     subst c6
     have H1 : (if a0.toList = ([109, 115] : List UInt8) then (some (1000000, 6)) else (if a0.toList = ([115] : List UInt8) then (some (1000000000, 9)) else (if a0.toList = ([109] : List UInt8) then (some (60000000000, 10)) else (if a0.toList = ([104] : List UInt8) then (some (3600000000000, 11)) else (some (0, 0)))))) = some (r1, r2) := by rw [if_neg (show ¬ (false = true) by decide)] at H; exact H
     clear H
     have H := H1
     clear H1
     by_cases c7 : a0.toList = ([109, 115] : List UInt8)
     ·rw [if_pos c7] at H
      have c7b0 : (a0.toList == ([109, 115] : List UInt8)) = true := beq_iff_eq.mpr c7
      simp only [Option.some.injEq, Prod.mk.injEq] at H
      obtain ⟨rfl, rfl⟩ := H
      go_wp2
      go_ret2
      exact ⟨by first | rfl | simp [*], by repeat (first | exact Drawn0.refl _ | apply Drawn0.step)⟩
     ·rw [if_neg c7] at H
      have c7b0 : (a0.toList == ([109, 115] : List UInt8)) = false := beq_eq_false_iff_ne.mpr c7
      by_cases c8 : a0.toList = ([115] : List UInt8)
      ·rw [if_pos c8] at H
       have c8b0 : (a0.toList == ([115] : List UInt8)) = true := beq_iff_eq.mpr c8
       simp only [Option.some.injEq, Prod.mk.injEq] at H
       obtain ⟨rfl, rfl⟩ := H
       go_wp2
       go_ret2
       exact ⟨by first | rfl | simp [*], by repeat (first | exact Drawn0.refl _ | apply Drawn0.step)⟩
      ·rw [if_neg c8] at H
       have c8b0 : (a0.toList == ([115] : List UInt8)) = false := beq_eq_false_iff_ne.mpr c8
       by_cases c9 : a0.toList = ([109] : List UInt8)
       ·rw [if_pos c9] at H
        have c9b0 : (a0.toList == ([109] : List UInt8)) = true := beq_iff_eq.mpr c9
        simp only [Option.some.injEq, Prod.mk.injEq] at H
        obtain ⟨rfl, rfl⟩ := H
        go_wp2
        go_ret2
        exact ⟨by first | rfl | simp [*], by repeat (first | exact Drawn0.refl _ | apply Drawn0.step)⟩
       ·rw [if_neg c9] at H
        have c9b0 : (a0.toList == ([109] : List UInt8)) = false := beq_eq_false_iff_ne.mpr c9
        by_cases c10 : a0.toList = ([104] : List UInt8)
        ·rw [if_pos c10] at H
         have c10b0 : (a0.toList == ([104] : List UInt8)) = true := beq_iff_eq.mpr c10
         simp only [Option.some.injEq, Prod.mk.injEq] at H
         obtain ⟨rfl, rfl⟩ := H
         go_wp2
         go_ret2
         exact ⟨by first | rfl | simp [*], by repeat (first | exact Drawn0.refl _ | apply Drawn0.step)⟩
        ·rw [if_neg c10] at H
         have c10b0 : (a0.toList == ([104] : List UInt8)) = false := beq_eq_false_iff_ne.mpr c10
         simp only [Option.some.injEq, Prod.mk.injEq] at H
         obtain ⟨rfl, rfl⟩ := H
         go_wp2
         go_ret2
         exact ⟨by first | rfl | simp [*], by repeat (first | exact Drawn0.refl _ | apply Drawn0.step)⟩
end Go.Proofs.YtcjdideliifkhaaGreatDoor.PFnCronTextAfterAnywhere
