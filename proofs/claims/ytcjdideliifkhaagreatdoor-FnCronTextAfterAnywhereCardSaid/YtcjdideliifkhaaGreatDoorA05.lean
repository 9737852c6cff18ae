import Derived.Test.YtcjdideliifkhaaGreatDoorA04
set_option maxRecDepth 100000
set_option maxHeartbeats 16000000
namespace Go.Proofs.YtcjdideliifkhaaGreatDoor.PFnCronTextAfterAnywhere
open Go.RowKit Go.Proofs.YtcjdideliifkhaaGreatDoorW.PrintWords Go.Proofs.YtcjdideliifkhaaGreatDoorW.PrintLast Go.Proofs.YtcjdideliifkhaaGreatDoorW.PrintMore
attribute [local go_sem] max2_int min2_int max_two min_two max_three min_three max_four min_four
set_option linter.unusedVariables false
set_option linter.unusedSimpArgs false
def spec_CronDelay.f (a0 : Int) : Option (Int) := if a0 < 1000000000 then (some 1000000000) else (some (wrap64 ((wrap64 (Int.tdiv a0 1000000000)) * 1000000000)))
theorem spec_CronDelay.calls (a0 : Int) (r : Int) (w : World) (h : spec_CronDelay.f a0 = some r) :
  Calls Tryz.prog 79 #[.int .i64 a0] w fun e w' => e = .returned (.int .i64 r) ∧ Drawn0 w w' := by
 have H : (if a0 < 1000000000 then (some 1000000000) else (some (wrap64 ((wrap64 (Int.tdiv a0 1000000000)) * 1000000000)))) = some r := h
 clear h
 by_cases c2 : a0 < 1000000000
 ·rw [if_pos c2] at H
  have c2b0 : decide (a0 < 1000000000) = true := decide_eq_true c2
  obtain rfl := Option.some.inj H
  go_enter Tryz.func79, Tryz.ntmps79
  go_wp2
  go_ret
  exact ⟨by first | rfl | simp [*], by repeat (first | exact Drawn0.refl _ | apply Drawn0.step)⟩
 ·rw [if_neg c2] at H
  have c2b0 : decide (a0 < 1000000000) = false := decide_eq_false c2
  obtain rfl := Option.some.inj H
  go_enter Tryz.func79, Tryz.ntmps79
  go_wp2
  go_ret
  exact ⟨by first | rfl | simp [*], by repeat (first | exact Drawn0.refl _ | apply Drawn0.step)⟩
def spec_CronMayMiss.f (a0 : Int) : Option (Int) := if (Go.bits .and .i64 a0 2) = 0 then (if (Go.bits .and .i64 a0 128) = 0 then (some (-1)) else (some 5)) else (some 0)
theorem spec_CronMayMiss.calls (a0 : Int) (r : Int) (w : World) (h : spec_CronMayMiss.f a0 = some r) :
  Calls Tryz.prog 81 #[.int .i64 a0] w fun e w' => e = .returned (.int .i64 r) ∧ Drawn0 w w' := by
 have H : (if (Go.bits .and .i64 a0 2) = 0 then (if (Go.bits .and .i64 a0 128) = 0 then (some (-1)) else (some 5)) else (some 0)) = some r := h
 clear h
 by_cases c2 : (Go.bits .and .i64 a0 2) = 0
 ·rw [if_pos c2] at H
  have c2b0 : ((Go.bits .and .i64 a0 2) == 0) = true := beq_iff_eq.mpr c2
  by_cases c3 : (Go.bits .and .i64 a0 128) = 0
  ·rw [if_pos c3] at H
   have c3b0 : ((Go.bits .and .i64 a0 128) == 0) = true := beq_iff_eq.mpr c3
   obtain rfl := Option.some.inj H
   go_enter Tryz.func81, Tryz.ntmps81
   go_wp2
   go_ret
   exact ⟨by first | rfl | simp [*], by repeat (first | exact Drawn0.refl _ | apply Drawn0.step)⟩
  ·rw [if_neg c3] at H
   have c3b0 : ((Go.bits .and .i64 a0 128) == 0) = false := beq_eq_false_iff_ne.mpr c3
   obtain rfl := Option.some.inj H
   go_enter Tryz.func81, Tryz.ntmps81
   go_wp2
   go_ret
   exact ⟨by first | rfl | simp [*], by repeat (first | exact Drawn0.refl _ | apply Drawn0.step)⟩
 ·rw [if_neg c2] at H
  have c2b0 : ((Go.bits .and .i64 a0 2) == 0) = false := beq_eq_false_iff_ne.mpr c2
  obtain rfl := Option.some.inj H
  go_enter Tryz.func81, Tryz.ntmps81
  go_wp2
  go_ret
  exact ⟨by first | rfl | simp [*], by repeat (first | exact Drawn0.refl _ | apply Drawn0.step)⟩
def spec_CronDefault.f (a0 : Int) : Option (ByteArray) := if a0 ≤ 2 then (some (⟨#[48]⟩ : ByteArray)) else (some (⟨#[42]⟩ : ByteArray))
theorem spec_CronDefault.calls (a0 : Int) (r : ByteArray) (w : World) (h : spec_CronDefault.f a0 = some r) :
  Calls Tryz.prog 82 #[.int .i64 a0] w fun e w' => e = .returned (.string r) ∧ Drawn0 w w' := by
 have H : (if a0 ≤ 2 then (some (⟨#[48]⟩ : ByteArray)) else (some (⟨#[42]⟩ : ByteArray))) = some r := h
 clear h
 by_cases c2 : a0 ≤ 2
 ·rw [if_pos c2] at H
  have c2b0 : decide (a0 ≤ 2) = true := decide_eq_true c2
  obtain rfl := Option.some.inj H
  go_enter Tryz.func82, Tryz.ntmps82
  go_wp2
  go_ret
  exact ⟨by first | rfl | simp [*], by repeat (first | exact Drawn0.refl _ | apply Drawn0.step)⟩
 ·rw [if_neg c2] at H
  have c2b0 : decide (a0 ≤ 2) = false := decide_eq_false c2
  obtain rfl := Option.some.inj H
  go_enter Tryz.func82, Tryz.ntmps82
  go_wp2
  go_ret
  exact ⟨by first | rfl | simp [*], by repeat (first | exact Drawn0.refl _ | apply Drawn0.step)⟩
def spec_cronPieces.l0 : Nat → ByteArray → Int → List ByteArray → Int → Int → Int → Option (List ByteArray)
 | 0, _, _, _, _, _, _ => none
 | k + 1, x0, x1, x5, x6, x9, x10 => if x10 < x9 then (if 0 ≤ x10 then (if x10 < (x0.size : Int) then (if (bt x0 x10) = x1 then (if 0 ≤ x6 then (if x6 ≤ x10 then (if x10 ≤ (x0.size : Int) then (if x5.length < 8796093022208 then (spec_cronPieces.l0 k x0 x1 (x5 ++ [x0.extract (x6 : Int).toNat (x10 : Int).toNat]) (wrap64 (x10 + 1)) x9 (wrap64 (x10 + 1))) else (none)) else (none)) else (none)) else (none)) else (spec_cronPieces.l0 k x0 x1 x5 x6 x9 (wrap64 (x10 + 1)))) else (none)) else (none)) else (if 0 ≤ x6 then (if x6 ≤ (x0.size : Int) then (if x5.length < 8796093022208 then (some (x5 ++ [x0.extract (x6 : Int).toNat x0.size])) else (none)) else (none)) else (none))
def spec_cronPieces.f (k : Nat) (a0 : ByteArray) (a1 : Int) : Option (List ByteArray) := spec_cronPieces.l0 k a0 a1 ([] : List ByteArray) 0 (a0.size : Int) 0
theorem spec_cronPieces.calls (k : Nat) (a0 : ByteArray) (a1 : Int) (r : List ByteArray) (w : World) (h : spec_cronPieces.f k a0 a1 = some r) :
  Calls Tryz.prog 111 #[.string a0, .int .u8 a1] w fun e w' => ∃ v0_ : Value, e = .returned (v0_) ∧ Kd.R Kd.string 9 w' w.heap.size (fun _ => True) v0_ r ∧ Below w.heap.size w w' := by
 have HB := Aside0.mk (Below.refl w.heap.size w)
 have H : (spec_cronPieces.l0 k a0 a1 ([] : List ByteArray) 0 (a0.size : Int) 0) = some r := h
 clear h
 have H' := Aside0.mk H
 clear H
 go_enter Tryz.func111, Tryz.ntmps111
 go_wp2
 go_loopg [5, 6, 10] k (fun kq v5 v6 v10 w' => ∃ (x5_1 : List ByteArray) (x6_1 : Int) (x10_1 : Int), v6 = .int .i64 x6_1 ∧ v10 = .int .i64 x10_1 ∧ Aside0 (spec_cronPieces.l0 kq a0 a1 x5_1 x6_1 (a0.size : Int) x10_1 = some r) ∧ Aside0 (kq ≤ k) ∧ Aside0 (Kd.R Kd.string 9 w' w.heap.size (fun _ => True) v5 x5_1) ∧ Aside0 (Below w.heap.size w w'))
 case atStart => exact ⟨(([] : List ByteArray)), (0), (0), (by first | rfl | simp [*]), (by first | rfl | simp [*]), H', ⟨Nat.le_refl _⟩, ⟨by first | exact Kd.R_nil _ _ _ _ _ | exact Kd.N_nil _ _ _ _ _ | exact Kd.V_nil _ _ _ _ _ | exact Kd.Q_nil _ _ _ _ _ | exact Kd.S_nil _ _ _ _ _⟩, ⟨by repeat (first | (with_reducible first | exact HB.out | apply below_alloc | apply pw_below_drewN | apply below_drew1) | exact HB.out)⟩⟩
 case round =>
  clear H'
  obtain ⟨x5_1, x6_1, x10_1, rfl, rfl, HA, HK1, HO_5, HB⟩ := hrel
  cases gk with
  | zero => exact absurd HA.out (by simp [spec_cronPieces.l0])
  | succ k1 =>
   have H := HA.out
   clear HA
   simp only [spec_cronPieces.l0] at H
   by_cases c3 : x10_1 < (a0.size : Int)
   ·rw [if_pos c3] at H
    have c3b0 : decide (x10_1 < (a0.size : Int)) = true := decide_eq_true c3
    by_cases c4 : 0 ≤ x10_1
    ·rw [if_pos c4] at H
     have c4b0 : decide (0 ≤ x10_1) = true := decide_eq_true c4
     by_cases c5 : x10_1 < (a0.size : Int)
     ·rw [if_pos c5] at H
      have c5b0 : decide (x10_1 < (a0.size : Int)) = true := decide_eq_true c5
      by_cases c7 : (bt a0 x10_1) = a1
      ·rw [if_pos c7] at H
       have c7b0 : ((bt a0 x10_1) == a1) = true := beq_iff_eq.mpr c7
       by_cases c8 : 0 ≤ x6_1
       ·rw [if_pos c8] at H
        have c8b0 := eq_true c8
        by_cases c9 : x6_1 ≤ x10_1
        ·rw [if_pos c9] at H
         have c9b0 := eq_true c9
         by_cases c10 : x10_1 ≤ (a0.size : Int)
         ·rw [if_pos c10] at H
          have c10b0 := eq_true c10
          by_cases c11 : x5_1.length < 8796093022208
          ·rw [if_pos c11] at H
           have LMc11 := Aside0.mk c11
           obtain ⟨y130, hy130⟩ : ∃ y_ : List ByteArray, y_ = (x5_1 ++ [a0.extract (x6_1 : Int).toNat (x10_1 : Int).toNat]) := ⟨_, rfl⟩
           replace H : (spec_cronPieces.l0 k1 a0 a1 y130 (wrap64 (x10_1 + 1)) (a0.size : Int) (wrap64 (x10_1 + 1))) = some r := by first | (rw [hy130]; with_reducible exact H) | (have H2_ := (Option.bind_some _ _).symm.trans H; rw [hy130]; with_reducible exact H2_) | (have H2_ := (Option.bind_some _ _).symm.trans H; with_reducible exact H2_) | with_reducible exact H | (rw [hy130]; exact H) | exact H
           have Ny130 := Aside0.mk hy130
           clear hy130
           have H' := Aside0.mk H
           clear H
           have p6 : 0 ≤ (x10_1 : Int) := of_decide_eq_true (by assumption)
           have q6 : x10_1 < (a0.size : Int) := of_decide_eq_true (by assumption)
           have hx6 := bt_at a0 x10_1
           replace p6 := eq_true p6
           replace q6 := eq_true q6
           go_wp2_with (first | ((with_reducible refine gate_builtin (b := .append) (xs := #[.tmp 18, .tmp 23]) rfl ?_); at_builtin; refine Kd.R_append Kd.string (w0 := w) w.heap.size rfl (.tmp 18) (.tmp 23) 50 9 (.string ⟨#[]⟩) 16 rfl Tryz.underlying50 info9 rfl (by decide) (by omega) u5 x5_1 (a0.extract (x6_1 : Int).toNat (x10_1 : Int).toNat) [.string (a0.extract (x6_1 : Int).toNat (x10_1 : Int).toNat)] (fun _ => True) (fun _ => False) rfl rfl ?aP (fun _ hk => hk.elim) ?aF ?aO ?aB ?aS ?aL ?_; (case aP => exact rfl); (case aB => exact (by repeat (first | (with_reducible first | exact HB.out | apply below_alloc | apply pw_below_drewN | apply below_drew1) | exact HB.out))); (case aF => exact (fun _ _ => trivial)); (case aO => exact (by (with_reducible repeat (first | apply Kd.R_alloc | apply Kd.R_drewN | apply Kd.R_drew)); exact HO_5.out)); (case aS => exact (below_size (by repeat (first | (with_reducible first | exact HB.out | apply below_alloc | apply pw_below_drewN | apply below_drew1) | exact HB.out)))); (case aL => have := LMc11.out; omega); intro v131 w12 ho hb hg hat; rw [← Ny130.out] at ho; have n0_ := Aside0.mk (hb); have n1_ := Aside0.mk (ho); clear HB; clear HO_5; have HB := n0_; have HO132 := n1_; clear n0_ n1_; clear ho hb hg hat))
           go_roundg k1
           case measure => have := HK1.out; omega
           case rel => exact ⟨(y130), (wrap64 (x10_1 + 1)), (wrap64 (x10_1 + 1)), (by first | rfl | simp [*]), (by first | rfl | simp [*]), H', ⟨by have := HK1.out; omega⟩, ⟨by (with_reducible repeat (first | apply Kd.R_alloc | apply Kd.R_drewN | apply Kd.R_drew)); exact HO132.out⟩, ⟨by repeat (first | (with_reducible first | exact HB.out | apply below_alloc | apply pw_below_drewN | apply below_drew1) | exact HB.out)⟩⟩
          ·rw [if_neg c11] at H
           exact absurd H (by simp)
         ·rw [if_neg c10] at H
          exact absurd H (by simp)
        ·rw [if_neg c9] at H
         exact absurd H (by simp)
       ·rw [if_neg c8] at H
        exact absurd H (by simp)
      ·rw [if_neg c7] at H
       have c7b0 : ((bt a0 x10_1) == a1) = false := beq_eq_false_iff_ne.mpr c7
       have H' := Aside0.mk H
       clear H
       have p6 : 0 ≤ (x10_1 : Int) := of_decide_eq_true (by assumption)
       have q6 : x10_1 < (a0.size : Int) := of_decide_eq_true (by assumption)
       have hx6 := bt_at a0 x10_1
       replace p6 := eq_true p6
       replace q6 := eq_true q6
       go_wp2
       go_roundg k1
       case measure => have := HK1.out; omega
       case rel => exact ⟨(x5_1), (x6_1), (wrap64 (x10_1 + 1)), (by first | rfl | simp [*]), (by first | rfl | simp [*]), H', ⟨by have := HK1.out; omega⟩, ⟨by (with_reducible repeat (first | apply Kd.R_alloc | apply Kd.R_drewN | apply Kd.R_drew)); exact HO_5.out⟩, ⟨by repeat (first | (with_reducible first | exact HB.out | apply below_alloc | apply pw_below_drewN | apply below_drew1) | exact HB.out)⟩⟩
     ·rw [if_neg c5] at H
      exact absurd H (by simp)
    ·rw [if_neg c4] at H
     exact absurd H (by simp)
   ·rw [if_neg c3] at H
    have c3b0 : decide (x10_1 < (a0.size : Int)) = false := decide_eq_false c3
    by_cases c13 : 0 ≤ x6_1
    ·rw [if_pos c13] at H
     have c13b0 := eq_true c13
     by_cases c14 : x6_1 ≤ (a0.size : Int)
     ·rw [if_pos c14] at H
      have c14b0 := eq_true c14
      by_cases c15 : x5_1.length < 8796093022208
      ·rw [if_pos c15] at H
       have LMc15 := Aside0.mk c15
       obtain ⟨y133, hy133⟩ : ∃ y_ : List ByteArray, y_ = (x5_1 ++ [a0.extract (x6_1 : Int).toNat a0.size]) := ⟨_, rfl⟩
       replace H : (some y133) = some r := by first | (rw [hy133]; with_reducible exact H) | (have H2_ := (Option.bind_some _ _).symm.trans H; rw [hy133]; with_reducible exact H2_) | (have H2_ := (Option.bind_some _ _).symm.trans H; with_reducible exact H2_) | with_reducible exact H | (rw [hy133]; exact H) | exact H
       have Ny133 := Aside0.mk hy133
       clear hy133
       obtain rfl := Option.some.inj H
       go_wp2_with (first | ((with_reducible refine gate_builtin (b := .append) (xs := #[.tmp 28, .tmp 32]) rfl ?_); at_builtin; refine Kd.R_append Kd.string (w0 := w) w.heap.size rfl (.tmp 28) (.tmp 32) 50 9 (.string ⟨#[]⟩) 16 rfl Tryz.underlying50 info9 rfl (by decide) (by omega) u5 x5_1 (a0.extract (x6_1 : Int).toNat a0.size) [.string (a0.extract (x6_1 : Int).toNat a0.size)] (fun _ => True) (fun _ => False) rfl rfl ?aP (fun _ hk => hk.elim) ?aF ?aO ?aB ?aS ?aL ?_; (case aP => exact rfl); (case aB => exact (by repeat (first | (with_reducible first | exact HB.out | apply below_alloc | apply pw_below_drewN | apply below_drew1) | exact HB.out))); (case aF => exact (fun _ _ => trivial)); (case aO => exact (by (with_reducible repeat (first | apply Kd.R_alloc | apply Kd.R_drewN | apply Kd.R_drew)); exact HO_5.out)); (case aS => exact (below_size (by repeat (first | (with_reducible first | exact HB.out | apply below_alloc | apply pw_below_drewN | apply below_drew1) | exact HB.out)))); (case aL => have := LMc15.out; omega); intro v134 w16 ho hb hg hat; rw [← Ny133.out] at ho; have n0_ := Aside0.mk (hb); have n1_ := Aside0.mk (ho); clear HB; clear HO_5; have HB := n0_; have HO135 := n1_; clear n0_ n1_; clear ho hb hg hat))
       go_ret
       exact ⟨_, by first | rfl | (simp [errW_none, errW_some] <;> rfl) | (simp [*, errW_none, errW_some] <;> rfl), by (with_reducible repeat (first | apply Kd.R_alloc | apply Kd.R_drewN | apply Kd.R_drew)); exact HO135.out, by repeat (first | (with_reducible first | exact HB.out | apply below_alloc | apply pw_below_drewN | apply below_drew1) | exact HB.out)⟩
      ·rw [if_neg c15] at H
       exact absurd H (by simp)
     ·rw [if_neg c14] at H
      exact absurd H (by simp)
    ·rw [if_neg c13] at H
     exact absurd H (by simp)
def spec_CronLow.f (a0 : Int) : Option (Int) := if a0 = 3 then (some 1) else (if a0 = 4 then (some 1) else (some 0))
theorem spec_CronLow.calls (a0 : Int) (r : Int) (w : World) (h : spec_CronLow.f a0 = some r) :
  Calls Tryz.prog 114 #[.int .i64 a0] w fun e w' => e = .returned (.int .i64 r) ∧ Drawn0 w w' := by
 have H : (if a0 = 3 then (some 1) else (if a0 = 4 then (some 1) else (some 0))) = some r := h
 clear h
 by_cases c2 : a0 = 3
 ·rw [if_pos c2] at H
  have c2b0 : (a0 == 3) = true := beq_iff_eq.mpr c2
  obtain rfl := Option.some.inj H
  go_enter Tryz.func114, Tryz.ntmps114
  go_wp2
  go_ret
  exact ⟨by first | rfl | simp [*], by repeat (first | exact Drawn0.refl _ | apply Drawn0.step)⟩
 ·rw [if_neg c2] at H
  have c2b0 : (a0 == 3) = false := beq_eq_false_iff_ne.mpr c2
  by_cases c3 : a0 = 4
  ·rw [if_pos c3] at H
   have c3b0 : (a0 == 4) = true := beq_iff_eq.mpr c3
   obtain rfl := Option.some.inj H
   go_enter Tryz.func114, Tryz.ntmps114
   go_wp2
   go_ret
   exact ⟨by first | rfl | simp [*], by repeat (first | exact Drawn0.refl _ | apply Drawn0.step)⟩
  ·rw [if_neg c3] at H
   have c3b0 : (a0 == 4) = false := beq_eq_false_iff_ne.mpr c3
   obtain rfl := Option.some.inj H
   go_enter Tryz.func114, Tryz.ntmps114
   go_wp2
   go_ret
   exact ⟨by first | rfl | simp [*], by repeat (first | exact Drawn0.refl _ | apply Drawn0.step)⟩
def spec_CronHigh.f (a0 : Int) : Option (Int) := if a0 = 2 then (some 23) else (if a0 = 3 then (some 31) else (if a0 = 4 then (some 12) else (if a0 = 5 then (some 6) else (some 59))))
theorem spec_CronHigh.calls (a0 : Int) (r : Int) (w : World) (h : spec_CronHigh.f a0 = some r) :
  Calls Tryz.prog 115 #[.int .i64 a0] w fun e w' => e = .returned (.int .i64 r) ∧ Drawn0 w w' := by
 have H : (if a0 = 2 then (some 23) else (if a0 = 3 then (some 31) else (if a0 = 4 then (some 12) else (if a0 = 5 then (some 6) else (some 59))))) = some r := h
 clear h
 by_cases c2 : a0 = 2
 ·rw [if_pos c2] at H
  have c2b0 : (a0 == 2) = true := beq_iff_eq.mpr c2
  obtain rfl := Option.some.inj H
  go_enter Tryz.func115, Tryz.ntmps115
  go_wp2
  go_ret
  exact ⟨by first | rfl | simp [*], by repeat (first | exact Drawn0.refl _ | apply Drawn0.step)⟩
 ·rw [if_neg c2] at H
  have c2b0 : (a0 == 2) = false := beq_eq_false_iff_ne.mpr c2
  by_cases c3 : a0 = 3
  ·rw [if_pos c3] at H
   have c3b0 : (a0 == 3) = true := beq_iff_eq.mpr c3
   obtain rfl := Option.some.inj H
   go_enter Tryz.func115, Tryz.ntmps115
   go_wp2
   go_ret
   exact ⟨by first | rfl | simp [*], by repeat (first | exact Drawn0.refl _ | apply Drawn0.step)⟩
  ·rw [if_neg c3] at H
   have c3b0 : (a0 == 3) = false := beq_eq_false_iff_ne.mpr c3
   by_cases c4 : a0 = 4
   ·rw [if_pos c4] at H
    have c4b0 : (a0 == 4) = true := beq_iff_eq.mpr c4
    obtain rfl := Option.some.inj H
    go_enter Tryz.func115, Tryz.ntmps115
    go_wp2
    go_ret
    exact ⟨by first | rfl | simp [*], by repeat (first | exact Drawn0.refl _ | apply Drawn0.step)⟩
   ·rw [if_neg c4] at H
    have c4b0 : (a0 == 4) = false := beq_eq_false_iff_ne.mpr c4
    by_cases c5 : a0 = 5
    ·rw [if_pos c5] at H
     have c5b0 : (a0 == 5) = true := beq_iff_eq.mpr c5
     obtain rfl := Option.some.inj H
     go_enter Tryz.func115, Tryz.ntmps115
     go_wp2
     go_ret
     exact ⟨by first | rfl | simp [*], by repeat (first | exact Drawn0.refl _ | apply Drawn0.step)⟩
    ·rw [if_neg c5] at H
     have c5b0 : (a0 == 5) = false := beq_eq_false_iff_ne.mpr c5
     obtain rfl := Option.some.inj H
     go_enter Tryz.func115, Tryz.ntmps115
     go_wp2
     go_ret
     exact ⟨by first | rfl | simp [*], by repeat (first | exact Drawn0.refl _ | apply Drawn0.step)⟩
end Go.Proofs.YtcjdideliifkhaaGreatDoor.PFnCronTextAfterAnywhere
