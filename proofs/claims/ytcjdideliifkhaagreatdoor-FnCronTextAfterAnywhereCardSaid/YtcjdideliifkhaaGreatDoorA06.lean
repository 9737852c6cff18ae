import Derived.Test.YtcjdideliifkhaaGreatDoorA04
set_option maxRecDepth 100000
set_option maxHeartbeats 16000000
namespace Go.Proofs.YtcjdideliifkhaaGreatDoor.PFnCronTextAfterAnywhere
open Go.RowKit Go.Proofs.YtcjdideliifkhaaGreatDoorW.PrintWords Go.Proofs.YtcjdideliifkhaaGreatDoorW.PrintLast Go.Proofs.YtcjdideliifkhaaGreatDoorW.PrintMore
attribute [local go_sem] max2_int min2_int max_two min_two max_three min_three max_four min_four
set_option linter.unusedVariables false
set_option linter.unusedSimpArgs false
def spec_cronZeros.l0 : Nat → ByteArray → Int → Int → Option (Bool)
 | 0, _, _, _ => none
 | k + 1, x0, x5, x6 => if x6 < x5 then (if 0 ≤ x6 then (if x6 < (x0.size : Int) then (if (bt x0 x6) = 48 then (spec_cronZeros.l0 k x0 x5 (wrap64 (x6 + 1))) else (some false)) else (none)) else (none)) else (some true)
def spec_cronZeros.f (k : Nat) (a0 : ByteArray) : Option (Bool) := spec_cronZeros.l0 k a0 (a0.size : Int) 0
theorem spec_cronZeros.calls (k : Nat) (a0 : ByteArray) (r : Bool) (w : World) (h : spec_cronZeros.f k a0 = some r) :
  Calls Tryz.prog 160 #[.string a0] w fun e w' => e = .returned (.bool r) ∧ Drawn0 w w' := by
 have H : (spec_cronZeros.l0 k a0 (a0.size : Int) 0) = some r := h
 clear h
 have H' := Aside0.mk H
 clear H
 go_enter Tryz.func160, Tryz.ntmps160
 go_wp2
 go_loopg [6] k (fun kq v6 w' => ∃ (x6_1 : Int), v6 = .int .i64 x6_1 ∧ Aside0 (spec_cronZeros.l0 kq a0 (a0.size : Int) x6_1 = some r) ∧ Aside0 (kq ≤ k) ∧ Drawn0 w w')
 case atStart => exact ⟨(0), (by first | rfl | simp [*]), H', ⟨Nat.le_refl _⟩, by repeat (first | exact Drawn0.refl _ | apply Drawn0.step)⟩
 case round =>
  clear H'
  obtain ⟨x6_1, rfl, HA, HK1, ⟨m1, rfl⟩⟩ := hrel
  cases gk with
  | zero => exact absurd HA.out (by simp [spec_cronZeros.l0])
  | succ k1 =>
   have H := HA.out
   clear HA
   simp only [spec_cronZeros.l0] at H
   by_cases c2 : x6_1 < (a0.size : Int)
   ·rw [if_pos c2] at H
    have c2b0 : decide (x6_1 < (a0.size : Int)) = true := decide_eq_true c2
    by_cases c3 : 0 ≤ x6_1
    ·rw [if_pos c3] at H
     have c3b0 : decide (0 ≤ x6_1) = true := decide_eq_true c3
     by_cases c4 : x6_1 < (a0.size : Int)
     ·rw [if_pos c4] at H
      have c4b0 : decide (x6_1 < (a0.size : Int)) = true := decide_eq_true c4
      by_cases c6 : (bt a0 x6_1) = 48
      ·rw [if_pos c6] at H
       have c6b0 : ((bt a0 x6_1) == 48) = true := beq_iff_eq.mpr c6
       have H' := Aside0.mk H
       clear H
       have p5 : 0 ≤ (x6_1 : Int) := of_decide_eq_true (by assumption)
       have q5 : x6_1 < (a0.size : Int) := of_decide_eq_true (by assumption)
       have hx5 := bt_at a0 x6_1
       replace p5 := eq_true p5
       replace q5 := eq_true q5
       go_wp2
       go_roundg k1
       case measure => have := HK1.out; omega
       case rel => exact ⟨(wrap64 (x6_1 + 1)), (by first | rfl | simp [*]), H', ⟨by have := HK1.out; omega⟩, by repeat (first | exact Drawn0.refl _ | apply Drawn0.step)⟩
      ·rw [if_neg c6] at H
       have c6b0 : ((bt a0 x6_1) == 48) = false := beq_eq_false_iff_ne.mpr c6
       obtain rfl := Option.some.inj H
       have p5 : 0 ≤ (x6_1 : Int) := of_decide_eq_true (by assumption)
       have q5 : x6_1 < (a0.size : Int) := of_decide_eq_true (by assumption)
       have hx5 := bt_at a0 x6_1
       replace p5 := eq_true p5
       replace q5 := eq_true q5
       go_wp2
       go_ret
       exact ⟨by first | rfl | simp [*], by repeat (first | exact Drawn0.refl _ | apply Drawn0.step)⟩
     ·rw [if_neg c4] at H
      exact absurd H (by simp)
    ·rw [if_neg c3] at H
     exact absurd H (by simp)
   ·rw [if_neg c2] at H
    have c2b0 : decide (x6_1 < (a0.size : Int)) = false := decide_eq_false c2
    obtain rfl := Option.some.inj H
    go_wp2
    go_ret
    exact ⟨by first | rfl | simp [*], by repeat (first | exact Drawn0.refl _ | apply Drawn0.step)⟩
mutual
def spec_CronNumber.j0 : Nat → ByteArray → Int → Bool → Option (Int × Int)
 | 0, _, _, _ => none
 | k + 1, x0, x4, x24 => if x24 = true then (if 1 ≤ (x0.size : Int) then (spec_CronNumber.j1 k (x0.extract 1 x0.size) 2) else (none)) else (spec_CronNumber.j1 k x0 x4)
def spec_CronNumber.j1 : Nat → ByteArray → Int → Option (Int × Int)
 | 0, _, _ => none
 | k + 1, x0, x4 => if x0.toList = ([] : List UInt8) then (some (0, 0)) else (spec_CronNumber.l0 k x0 x4 0 (x0.size : Int) 0)
def spec_CronNumber.l0 : Nat → ByteArray → Int → Int → Int → Int → Option (Int × Int)
 | 0, _, _, _, _, _ => none
 | k + 1, x0, x4, x5, x30, x31 => if x31 < x30 then (if 0 ≤ x31 then (if x31 < (x0.size : Int) then ((spec_isDigit.f (bt x0 x31)).bind fun t137 => (if t137 = true then (spec_CronNumber.l0 k x0 x4 (mn (wrap64 ((wrap64 (10 * x5)) + (((bt x0 x31) - 48) % 256))) 1099511627776) x30 (wrap64 (x31 + 1))) else (some (0, 0)))) else (none)) else (none)) else (some (x5, x4))
end
def spec_CronNumber.f (k : Nat) (a0 : ByteArray) : Option (Int × Int) := if (a0.size : Int) > 0 then (if 0 < (a0.size : Int) then (if (bt a0 0) = 43 then (spec_CronNumber.j0 k a0 1 true) else (if (bt a0 0) = 45 then (if 1 ≤ (a0.size : Int) then ((spec_cronZeros.f k (a0.extract 1 a0.size)).bind fun t136 => (spec_CronNumber.j0 k a0 1 t136)) else (none)) else (spec_CronNumber.j0 k a0 1 false))) else (none)) else (spec_CronNumber.j0 k a0 1 false)
theorem spec_CronNumber.calls (k : Nat) (a0 : ByteArray) (r1 : Int) (r2 : Int) (w : World) (h : spec_CronNumber.f k a0 = some (r1, r2)) :
  Calls Tryz.prog 154 #[.string a0] w fun e w' => e = .returned (.tuple #[.int .i64 r1, .int .i64 r2]) ∧ Below w.heap.size w w' := by
 have HB := Aside0.mk (Below.refl w.heap.size w)
 have H : (if (a0.size : Int) > 0 then (if 0 < (a0.size : Int) then (if (bt a0 0) = 43 then (spec_CronNumber.j0 k a0 1 true) else (if (bt a0 0) = 45 then (if 1 ≤ (a0.size : Int) then ((spec_cronZeros.f k (a0.extract 1 a0.size)).bind fun t136 => (spec_CronNumber.j0 k a0 1 t136)) else (none)) else (spec_CronNumber.j0 k a0 1 false))) else (none)) else (spec_CronNumber.j0 k a0 1 false)) = some (r1, r2) := h
 clear h
 have HC2 := Aside0.mk H
 clear H
 go_enter Tryz.func154, Tryz.ntmps154
 go_upto_region 2 with (fail)
 go_cut [24] (fun v24 wc => ∃ (kq : Nat) (x24_1 : Bool), v24 = .bool x24_1 ∧ Aside0 (spec_CronNumber.j0 kq a0 1 x24_1 = some (r1, r2)) ∧ Aside0 (kq ≤ k) ∧ Aside0 (Below w.heap.size w wc))
 case first =>
  have H := HC2.out
  clear HC2
  by_cases c3 : (a0.size : Int) > 0
  ·rw [if_pos c3] at H
   have c3b0 : decide (0 < (a0.size : Int)) = true := decide_eq_true c3
   have c3b1 : decide (0 < a0.size) = true := decide_eq_true (by omega)
   (first | rw [c3b0] | (simp only [i64_w, i32_w]; rw [c3b0]) | skip)
   by_cases c4 : 0 < (a0.size : Int)
   ·rw [if_pos c4] at H
    have c4b0 : decide (0 < (a0.size : Int)) = true := decide_eq_true c4
    have c4b1 : decide (0 < a0.size) = true := decide_eq_true (by omega)
    by_cases c6 : (bt a0 0) = 43
    ·rw [if_pos c6] at H
     have c6b0 : ((bt a0 0) == 43) = true := beq_iff_eq.mpr c6
     have c6b1 : ((bt a0 0) != 43) = false := bne_eq_false_iff_eq.mpr c6
     have H' := Aside0.mk H
     clear H
     have p5 : 0 ≤ (0 : Int) := (by omega)
     have q5 : 0 < a0.size := (by have : (0 : Int) < (a0.size : Int) := of_decide_eq_true (by assumption); omega)
     have hx5 : ∀ h : 0 < a0.size, ((a0[0]'h).toNat : Int) = bt a0 0 := bt_at a0 0
     clear p5
     have qi5 : (0 < (a0.size : Int)) = True := eq_true (of_decide_eq_true (by assumption))
     replace q5 := eq_true q5
     go_wp2
     go_meet
     case rel => exact ⟨_, (true), (by first | rfl | simp [*]), H', ⟨by first | omega | exact Nat.le_refl _⟩, ⟨by repeat (first | (with_reducible first | exact HB.out | apply below_alloc | apply pw_below_drewN | apply below_drew1) | exact HB.out)⟩⟩
    ·rw [if_neg c6] at H
     have c6b0 : ((bt a0 0) == 43) = false := beq_eq_false_iff_ne.mpr c6
     have c6b1 : ((bt a0 0) != 43) = true := bne_iff_ne.mpr c6
     by_cases c8 : (bt a0 0) = 45
     ·rw [if_pos c8] at H
      have c8b0 : ((bt a0 0) == 45) = true := beq_iff_eq.mpr c8
      have c8b1 : ((bt a0 0) != 45) = false := bne_eq_false_iff_eq.mpr c8
      by_cases c9 : 1 ≤ (a0.size : Int)
      ·rw [if_pos c9] at H
       have c9b0 := eq_true c9
       have c9b1 : decide (1 ≤ (a0.size : Int)) = true := decide_eq_true c9
       replace H := Option.bind_eq_some_iff.mp H
       obtain ⟨t136, A100, H⟩ := H
       replace H : (spec_CronNumber.j0 k a0 1 t136) = some (r1, r2) := H
       have A10 := Aside0.mk A100
       clear A100
       have H' := Aside0.mk H
       clear H
       have p5 : 0 ≤ (0 : Int) := (by omega)
       have q5 : 0 < a0.size := (by have : (0 : Int) < (a0.size : Int) := of_decide_eq_true (by assumption); omega)
       have hx5 : ∀ h : 0 < a0.size, ((a0[0]'h).toNat : Int) = bt a0 0 := bt_at a0 0
       clear p5
       have qi5 : (0 < (a0.size : Int)) = True := eq_true (of_decide_eq_true (by assumption))
       replace q5 := eq_true q5
       have p7 : 0 ≤ (0 : Int) := (by omega)
       have q7 : 0 < a0.size := (by have : (0 : Int) < (a0.size : Int) := of_decide_eq_true (by assumption); omega)
       have hx7 : ∀ h : 0 < a0.size, ((a0[0]'h).toNat : Int) = bt a0 0 := bt_at a0 0
       clear p7
       have qi7 : (0 < (a0.size : Int)) = True := eq_true (of_decide_eq_true (by assumption))
       replace q7 := eq_true q7
       go_wp2_with (first | (go_at_call 160; (with_reducible refine (spec_cronZeros.calls k (a0.extract 1 a0.size) t136 _ A10.out).mono ?_); rintro e w' ⟨rfl, ⟨nd, rfl⟩⟩))
       go_meet
       case rel => exact ⟨_, (t136), (by first | rfl | simp [*]), H', ⟨by first | omega | exact Nat.le_refl _⟩, ⟨by repeat (first | (with_reducible first | exact HB.out | apply below_alloc | apply pw_below_drewN | apply below_drew1) | exact HB.out)⟩⟩
      ·rw [if_neg c9] at H
       exact absurd H (by simp)
     ·rw [if_neg c8] at H
      have c8b0 : ((bt a0 0) == 45) = false := beq_eq_false_iff_ne.mpr c8
      have c8b1 : ((bt a0 0) != 45) = true := bne_iff_ne.mpr c8
      have H' := Aside0.mk H
      clear H
      have p5 : 0 ≤ (0 : Int) := (by omega)
      have q5 : 0 < a0.size := (by have : (0 : Int) < (a0.size : Int) := of_decide_eq_true (by assumption); omega)
      have hx5 : ∀ h : 0 < a0.size, ((a0[0]'h).toNat : Int) = bt a0 0 := bt_at a0 0
      clear p5
      have qi5 : (0 < (a0.size : Int)) = True := eq_true (of_decide_eq_true (by assumption))
      replace q5 := eq_true q5
      have p7 : 0 ≤ (0 : Int) := (by omega)
      have q7 : 0 < a0.size := (by have : (0 : Int) < (a0.size : Int) := of_decide_eq_true (by assumption); omega)
      have hx7 : ∀ h : 0 < a0.size, ((a0[0]'h).toNat : Int) = bt a0 0 := bt_at a0 0
      clear p7
      have qi7 : (0 < (a0.size : Int)) = True := eq_true (of_decide_eq_true (by assumption))
      replace q7 := eq_true q7
      go_wp2
      go_meet
      case rel => exact ⟨_, (false), (by first | rfl | simp [*]), H', ⟨by first | omega | exact Nat.le_refl _⟩, ⟨by repeat (first | (with_reducible first | exact HB.out | apply below_alloc | apply pw_below_drewN | apply below_drew1) | exact HB.out)⟩⟩
   ·rw [if_neg c4] at H
    exact absurd H (by simp)
  ·rw [if_neg c3] at H
   have c3b0 : decide (0 < (a0.size : Int)) = false := decide_eq_false c3
   have c3b1 : decide (0 < a0.size) = false := decide_eq_false (by omega)
   (first | rw [c3b0] | (simp only [i64_w, i32_w]; rw [c3b0]) | skip)
   have H' := Aside0.mk H
   clear H
   go_wp2
   go_meet
   case rel => exact ⟨_, (false), (by first | rfl | simp [*]), H', ⟨by first | omega | exact Nat.le_refl _⟩, ⟨by repeat (first | (with_reducible first | exact HB.out | apply below_alloc | apply pw_below_drewN | apply below_drew1) | exact HB.out)⟩⟩
 case rest =>
  clear HC2
  obtain ⟨kq, x24_1, rfl, HA, HJ1, HB⟩ := hcut
  cases kq with
  | zero => exact absurd HA.out (by simp [spec_CronNumber.j0])
  | succ kj1 =>
   have H := HA.out
   clear HA
   simp only [spec_CronNumber.j0] at H
   have HC11 := Aside0.mk H
   clear H
   go_upto_if 24 with (fail)
   go_cut [0, 4] (fun v0 v4 wc => ∃ (kq : Nat) (x0_10 : ByteArray) (x4_10 : Int), v0 = .string x0_10 ∧ v4 = .int .i64 x4_10 ∧ Aside0 (spec_CronNumber.j1 kq x0_10 x4_10 = some (r1, r2)) ∧ Aside0 (kq ≤ kj1) ∧ Aside0 (Below w.heap.size w wc))
   case first =>
    have H := HC11.out
    clear HC11
    by_cases c12 : x24_1 = true
    ·subst c12
     have H1 : (if 1 ≤ (a0.size : Int) then (spec_CronNumber.j1 kj1 (a0.extract 1 a0.size) 2) else (none)) = some (r1, r2) := by rw [if_pos rfl] at H; exact H
     clear H
     have H := H1
     clear H1
     by_cases c13 : 1 ≤ (a0.size : Int)
     ·rw [if_pos c13] at H
      have c13b0 := eq_true c13
      have c13b1 : decide (1 ≤ (a0.size : Int)) = true := decide_eq_true c13
      have H' := Aside0.mk H
      clear H
      go_wp2
      go_meet
      case rel => exact ⟨_, (a0.extract 1 a0.size), (2), (by first | rfl | simp [*]), (by first | rfl | simp [*]), H', ⟨by have := HJ1.out; first | omega | exact Nat.le_refl _⟩, ⟨by repeat (first | (with_reducible first | exact HB.out | apply below_alloc | apply pw_below_drewN | apply below_drew1) | exact HB.out)⟩⟩
     ·rw [if_neg c13] at H
      exact absurd H (by simp)
    ·replace c12 := Bool.eq_false_iff.mpr c12
     subst c12
     have H1 : (spec_CronNumber.j1 kj1 a0 1) = some (r1, r2) := by rw [if_neg (show ¬ (false = true) by decide)] at H; exact H
     clear H
     have H := H1
     clear H1
     have H' := Aside0.mk H
     clear H
     go_wp2
     go_meet
     case rel => exact ⟨_, (a0), (1), (by first | rfl | simp [*]), (by first | rfl | simp [*]), H', ⟨by have := HJ1.out; first | omega | exact Nat.le_refl _⟩, ⟨by repeat (first | (with_reducible first | exact HB.out | apply below_alloc | apply pw_below_drewN | apply below_drew1) | exact HB.out)⟩⟩
   case rest =>
    clear HC11
    obtain ⟨kq, x0_10, x4_10, rfl, rfl, HA, HJ10, HB⟩ := hcut
    cases kq with
    | zero => exact absurd HA.out (by simp [spec_CronNumber.j1])
    | succ kj10 =>
     have H := HA.out
     clear HA
     simp only [spec_CronNumber.j1] at H
     by_cases c14 : x0_10.toList = ([] : List UInt8)
     ·rw [if_pos c14] at H
      have c14b0 : (x0_10.toList == ([] : List UInt8)) = true := beq_iff_eq.mpr c14
      have c14b1 : (x0_10.toList != ([] : List UInt8)) = false := bne_eq_false_iff_eq.mpr c14
      simp only [Option.some.injEq, Prod.mk.injEq] at H
      obtain ⟨rfl, rfl⟩ := H
      go_wp2
      go_ret2
      exact ⟨by first | rfl | (simp [errW_none, errW_some] <;> rfl) | (simp [*, errW_none, errW_some] <;> rfl), by repeat (first | (with_reducible first | exact HB.out | apply below_alloc | apply pw_below_drewN | apply below_drew1) | exact HB.out)⟩
     ·rw [if_neg c14] at H
      have c14b0 : (x0_10.toList == ([] : List UInt8)) = false := beq_eq_false_iff_ne.mpr c14
      have c14b1 : (x0_10.toList != ([] : List UInt8)) = true := bne_iff_ne.mpr c14
      have H' := Aside0.mk H
      clear H
      go_wp2
      go_loopg [5, 31] kj10 (fun kq v5 v31 w' => ∃ (x5_3 : Int) (x31_3 : Int), v5 = .int .i64 x5_3 ∧ v31 = .int .i64 x31_3 ∧ Aside0 (spec_CronNumber.l0 kq x0_10 x4_10 x5_3 (x0_10.size : Int) x31_3 = some (r1, r2)) ∧ Aside0 (kq ≤ kj10) ∧ Aside0 (Below w.heap.size w w'))
      case atStart => exact ⟨(0), (0), (by first | rfl | simp [*]), (by first | rfl | simp [*]), H', ⟨Nat.le_refl _⟩, ⟨by repeat (first | (with_reducible first | exact HB.out | apply below_alloc | apply pw_below_drewN | apply below_drew1) | exact HB.out)⟩⟩
      case round =>
       clear H'
       obtain ⟨x5_3, x31_3, rfl, rfl, HA, HK3, HB⟩ := hrel
       cases gk with
       | zero => exact absurd HA.out (by simp [spec_CronNumber.l0])
       | succ k3 =>
        have H := HA.out
        clear HA
        simp only [spec_CronNumber.l0] at H
        by_cases c15 : x31_3 < (x0_10.size : Int)
        ·rw [if_pos c15] at H
         have c15b0 : decide (x31_3 < (x0_10.size : Int)) = true := decide_eq_true c15
         by_cases c16 : 0 ≤ x31_3
         ·rw [if_pos c16] at H
          have c16b0 : decide (0 ≤ x31_3) = true := decide_eq_true c16
          by_cases c17 : x31_3 < (x0_10.size : Int)
          ·rw [if_pos c17] at H
           have c17b0 : decide (x31_3 < (x0_10.size : Int)) = true := decide_eq_true c17
           replace H := Option.bind_eq_some_iff.mp H
           obtain ⟨t137, A190, H⟩ := H
           replace H : (if t137 = true then (spec_CronNumber.l0 k3 x0_10 x4_10 (mn (wrap64 ((wrap64 (10 * x5_3)) + (((bt x0_10 x31_3) - 48) % 256))) 1099511627776) (x0_10.size : Int) (wrap64 (x31_3 + 1))) else (some (0, 0))) = some (r1, r2) := H
           have A19 := Aside0.mk A190
           clear A190
           by_cases c20 : t137 = true
           ·subst c20
            have H1 : (spec_CronNumber.l0 k3 x0_10 x4_10 (mn (wrap64 ((wrap64 (10 * x5_3)) + (((bt x0_10 x31_3) - 48) % 256))) 1099511627776) (x0_10.size : Int) (wrap64 (x31_3 + 1))) = some (r1, r2) := by rw [if_pos rfl] at H; exact H
            clear H
            have H := H1
            clear H1
            obtain ⟨ji22, hji22⟩ : ∃ j_ : Int, (mn (wrap64 ((wrap64 (10 * x5_3)) + (((bt x0_10 x31_3) - 48) % 256))) 1099511627776) = j_ := ⟨_, rfl⟩
            replace H : (spec_CronNumber.l0 k3 x0_10 x4_10 ji22 (x0_10.size : Int) (wrap64 (x31_3 + 1))) = some (r1, r2) := by first | (rw [hji22] at H; exact H) | (simp only [hji22] at H ⊢; exact H)
            have hji22_ : (if 1099511627776 < (wrap64 ((wrap64 (10 * x5_3)) + (((bt x0_10 x31_3) - 48) % 256))) then 1099511627776 else (wrap64 ((wrap64 (10 * x5_3)) + (((bt x0_10 x31_3) - 48) % 256)))) = ji22 := hji22
            have H' := Aside0.mk H
            clear H
            have p18 : 0 ≤ (x31_3 : Int) := of_decide_eq_true (by assumption)
            have q18 : x31_3 < (x0_10.size : Int) := of_decide_eq_true (by assumption)
            have hx18 := bt_at x0_10 x31_3
            replace p18 := eq_true p18
            replace q18 := eq_true q18
            go_wp2_with (first | ((with_reducible refine gate_callee (f := 141) rfl ?_); refine goesL_ (some 37) rfl rfl Tryz.func141 (by kernel_rfl) rfl #[.int .u8 (bt x0_10 x31_3)] rfl (by (try simp only [List.map_toArray, List.map_cons, List.map_nil]); first | done | rfl | (simp only [List.length_drop, List.length_take]; rfl)) ?_; (with_reducible refine (spec_isDigit.calls (bt x0_10 x31_3) true _ A19.out).mono ?_); rintro e w' ⟨rfl, ⟨nd, rfl⟩⟩; refine ⟨_, rfl, ?_⟩; have p21 : 0 ≤ (x31_3 : Int) := of_decide_eq_true (by assumption); have q21 : x31_3 < (x0_10.size : Int) := of_decide_eq_true (by assumption); have hx21 := bt_at x0_10 x31_3; replace p21 := eq_true p21; replace q21 := eq_true q21))
            go_roundg k3
            case measure => have := HJ1.out; have := HJ10.out; have := HK3.out; omega
            case rel => exact ⟨(ji22), (wrap64 (x31_3 + 1)), (by first | rfl | (simp; done) | (simp only [← hji22] <;> (first | rfl | simp)) | (simp [*]; done)), (by first | rfl | simp [*]), H', ⟨by have := HJ1.out; have := HJ10.out; have := HK3.out; omega⟩, ⟨by repeat (first | (with_reducible first | exact HB.out | apply below_alloc | apply pw_below_drewN | apply below_drew1) | exact HB.out)⟩⟩
           ·replace c20 := Bool.eq_false_iff.mpr c20
            subst c20
            have H1 : (some (0, 0)) = some (r1, r2) := by rw [if_neg (show ¬ (false = true) by decide)] at H; exact H
            clear H
            have H := H1
            clear H1
            simp only [Option.some.injEq, Prod.mk.injEq] at H
            obtain ⟨rfl, rfl⟩ := H
            have p18 : 0 ≤ (x31_3 : Int) := of_decide_eq_true (by assumption)
            have q18 : x31_3 < (x0_10.size : Int) := of_decide_eq_true (by assumption)
            have hx18 := bt_at x0_10 x31_3
            replace p18 := eq_true p18
            replace q18 := eq_true q18
            go_wp2_with (first | ((with_reducible refine gate_callee (f := 141) rfl ?_); refine goesL_ (some 37) rfl rfl Tryz.func141 (by kernel_rfl) rfl #[.int .u8 (bt x0_10 x31_3)] rfl (by (try simp only [List.map_toArray, List.map_cons, List.map_nil]); first | done | rfl | (simp only [List.length_drop, List.length_take]; rfl)) ?_; (with_reducible refine (spec_isDigit.calls (bt x0_10 x31_3) false _ A19.out).mono ?_); rintro e w' ⟨rfl, ⟨nd, rfl⟩⟩; refine ⟨_, rfl, ?_⟩))
            go_ret2
            exact ⟨by first | rfl | (simp [errW_none, errW_some] <;> rfl) | (simp [*, errW_none, errW_some] <;> rfl), by repeat (first | (with_reducible first | exact HB.out | apply below_alloc | apply pw_below_drewN | apply below_drew1) | exact HB.out)⟩
          ·rw [if_neg c17] at H
           exact absurd H (by simp)
         ·rw [if_neg c16] at H
          exact absurd H (by simp)
        ·rw [if_neg c15] at H
         have c15b0 : decide (x31_3 < (x0_10.size : Int)) = false := decide_eq_false c15
         simp only [Option.some.injEq, Prod.mk.injEq] at H
         obtain ⟨rfl, rfl⟩ := H
         go_wp2
         go_ret2
         exact ⟨by first | rfl | (simp [errW_none, errW_some] <;> rfl) | (simp [*, errW_none, errW_some] <;> rfl), by repeat (first | (with_reducible first | exact HB.out | apply below_alloc | apply pw_below_drewN | apply below_drew1) | exact HB.out)⟩
def spec_cronUpper.f (a0 : Int) : Option (Int) := if 97 ≤ a0 then (if a0 ≤ 122 then (some ((((a0 - 97) % 256) + 65) % 256)) else (some a0)) else (some a0)
theorem spec_cronUpper.calls (a0 : Int) (r : Int) (w : World) (h : spec_cronUpper.f a0 = some r) :
  Calls Tryz.prog 166 #[.int .u8 a0] w fun e w' => e = .returned (.int .u8 r) ∧ Drawn0 w w' := by
 have H : (if 97 ≤ a0 then (if a0 ≤ 122 then (some ((((a0 - 97) % 256) + 65) % 256)) else (some a0)) else (some a0)) = some r := h
 clear h
 by_cases c2 : 97 ≤ a0
 ·rw [if_pos c2] at H
  have c2b0 : decide (97 ≤ a0) = true := decide_eq_true c2
  clear c2
  by_cases c3 : a0 ≤ 122
  ·rw [if_pos c3] at H
   have c3b0 : decide (a0 ≤ 122) = true := decide_eq_true c3
   clear c3
   obtain rfl := Option.some.inj H
   go_enter Tryz.func166, Tryz.ntmps166
   go_wp2
   go_ret
   exact ⟨by first | rfl | simp [*], by repeat (first | exact Drawn0.refl _ | apply Drawn0.step)⟩
  ·rw [if_neg c3] at H
   have c3b0 : decide (a0 ≤ 122) = false := decide_eq_false c3
   clear c3
   obtain rfl := Option.some.inj H
   go_enter Tryz.func166, Tryz.ntmps166
   go_wp2
   go_ret
   exact ⟨by first | rfl | simp [*], by repeat (first | exact Drawn0.refl _ | apply Drawn0.step)⟩
 ·rw [if_neg c2] at H
  have c2b0 : decide (97 ≤ a0) = false := decide_eq_false c2
  clear c2
  obtain rfl := Option.some.inj H
  go_enter Tryz.func166, Tryz.ntmps166
  go_wp2
  go_ret
  exact ⟨by first | rfl | simp [*], by repeat (first | exact Drawn0.refl _ | apply Drawn0.step)⟩
def spec_cronSame.l0 : Nat → ByteArray → ByteArray → Int → Int → Option (Bool)
 | 0, _, _, _, _ => none
 | k + 1, x0, x1, x12, x13 => if x13 < x12 then (if 0 ≤ x13 then (if x13 < (x0.size : Int) then ((spec_cronUpper.f (bt x0 x13)).bind fun t138 => (if x13 < (x1.size : Int) then ((spec_cronUpper.f (bt x1 x13)).bind fun t139 => (if t138 = t139 then (spec_cronSame.l0 k x0 x1 x12 (wrap64 (x13 + 1))) else (some false))) else (none))) else (none)) else (none)) else (some true)
def spec_cronSame.f (k : Nat) (a0 : ByteArray) (a1 : ByteArray) : Option (Bool) := if (a0.size : Int) = (a1.size : Int) then (spec_cronSame.l0 k a0 a1 (a0.size : Int) 0) else (some false)
theorem spec_cronSame.calls (k : Nat) (a0 : ByteArray) (a1 : ByteArray) (r : Bool) (w : World) (h : spec_cronSame.f k a0 a1 = some r) :
  Calls Tryz.prog 158 #[.string a0, .string a1] w fun e w' => e = .returned (.bool r) ∧ Drawn0 w w' := by
 have H : (if (a0.size : Int) = (a1.size : Int) then (spec_cronSame.l0 k a0 a1 (a0.size : Int) 0) else (some false)) = some r := h
 clear h
 by_cases c3 : (a0.size : Int) = (a1.size : Int)
 ·rw [if_pos c3] at H
  have c3b0 : ((a0.size : Int) == (a1.size : Int)) = true := beq_iff_eq.mpr c3
  have c3b1 : ((a0.size : Int) != (a1.size : Int)) = false := bne_eq_false_iff_eq.mpr c3
  have H' := Aside0.mk H
  clear H
  go_enter Tryz.func158, Tryz.ntmps158
  go_wp2
  repeat (go_quiet (fail); try go_wp2)
  go_loopg [13] k (fun kq v13 w' => ∃ (x13_1 : Int), v13 = .int .i64 x13_1 ∧ Aside0 (spec_cronSame.l0 kq a0 a1 (a0.size : Int) x13_1 = some r) ∧ Aside0 (kq ≤ k) ∧ Drawn0 w w')
  case atStart => exact ⟨(0), (by first | rfl | simp [*]), H', ⟨Nat.le_refl _⟩, by repeat (first | exact Drawn0.refl _ | apply Drawn0.step)⟩
  case round =>
   clear H'
   obtain ⟨x13_1, rfl, HA, HK1, ⟨m1, rfl⟩⟩ := hrel
   cases gk with
   | zero => exact absurd HA.out (by simp [spec_cronSame.l0])
   | succ k1 =>
    have H := HA.out
    clear HA
    simp only [spec_cronSame.l0] at H
    by_cases c4 : x13_1 < (a0.size : Int)
    ·rw [if_pos c4] at H
     have c4b0 : decide (x13_1 < (a0.size : Int)) = true := decide_eq_true c4
     by_cases c5 : 0 ≤ x13_1
     ·rw [if_pos c5] at H
      have c5b0 : decide (0 ≤ x13_1) = true := decide_eq_true c5
      by_cases c6 : x13_1 < (a0.size : Int)
      ·rw [if_pos c6] at H
       have c6b0 : decide (x13_1 < (a0.size : Int)) = true := decide_eq_true c6
       replace H := Option.bind_eq_some_iff.mp H
       obtain ⟨t138, A80, H⟩ := H
       replace H : (if x13_1 < (a1.size : Int) then ((spec_cronUpper.f (bt a1 x13_1)).bind fun t139 => (if t138 = t139 then (spec_cronSame.l0 k1 a0 a1 (a0.size : Int) (wrap64 (x13_1 + 1))) else (some false))) else (none)) = some r := H
       have A8 := Aside0.mk A80
       clear A80
       by_cases c9 : x13_1 < (a1.size : Int)
       ·rw [if_pos c9] at H
        have c9b0 : decide (x13_1 < (a1.size : Int)) = true := decide_eq_true c9
        replace H := Option.bind_eq_some_iff.mp H
        obtain ⟨t139, A110, H⟩ := H
        replace H : (if t138 = t139 then (spec_cronSame.l0 k1 a0 a1 (a0.size : Int) (wrap64 (x13_1 + 1))) else (some false)) = some r := H
        have A11 := Aside0.mk A110
        clear A110
        by_cases c12 : t138 = t139
        ·rw [if_pos c12] at H
         have c12b0 : (t138 == t139) = true := beq_iff_eq.mpr c12
         have c12b1 : (t138 != t139) = false := bne_eq_false_iff_eq.mpr c12
         have H' := Aside0.mk H
         clear H
         have p7 : 0 ≤ (x13_1 : Int) := of_decide_eq_true (by assumption)
         have q7 : x13_1 < (a0.size : Int) := of_decide_eq_true (by assumption)
         have hx7 := bt_at a0 x13_1
         replace p7 := eq_true p7
         replace q7 := eq_true q7
         go_wp2_with (first | (go_at_call 166; (with_reducible refine (spec_cronUpper.calls (bt a0 x13_1) t138 _ A8.out).mono ?_); rintro e w' ⟨rfl, ⟨nd, rfl⟩⟩; (try first | exact ⟨rfl, _, World.drewN_drewN _ _ _⟩ | exact ⟨rfl, _, Eq.trans (World.drewN_drewN _ _ _) (congrArg (World.drewN _) (Nat.add_assoc _ _ _))⟩); have p10 : 0 ≤ (x13_1 : Int) := of_decide_eq_true (by assumption); have q10 : x13_1 < (a1.size : Int) := of_decide_eq_true (by assumption); have hx10 := bt_at a1 x13_1; replace p10 := eq_true p10; replace q10 := eq_true q10) | (go_at_call 166; (with_reducible refine (spec_cronUpper.calls (bt a1 x13_1) t139 _ A11.out).mono ?_); rintro e w' ⟨rfl, ⟨nd, rfl⟩⟩; (try first | exact ⟨rfl, _, World.drewN_drewN _ _ _⟩ | exact ⟨rfl, _, Eq.trans (World.drewN_drewN _ _ _) (congrArg (World.drewN _) (Nat.add_assoc _ _ _))⟩)))
         repeat (go_quiet (first | (go_at_call 166; (with_reducible refine (spec_cronUpper.calls (bt a0 x13_1) t138 _ A8.out).mono ?_); rintro e w' ⟨rfl, ⟨nd, rfl⟩⟩; (try first | exact ⟨rfl, _, World.drewN_drewN _ _ _⟩ | exact ⟨rfl, _, Eq.trans (World.drewN_drewN _ _ _) (congrArg (World.drewN _) (Nat.add_assoc _ _ _))⟩); have p10 : 0 ≤ (x13_1 : Int) := of_decide_eq_true (by assumption); have q10 : x13_1 < (a1.size : Int) := of_decide_eq_true (by assumption); have hx10 := bt_at a1 x13_1; replace p10 := eq_true p10; replace q10 := eq_true q10) | (go_at_call 166; (with_reducible refine (spec_cronUpper.calls (bt a1 x13_1) t139 _ A11.out).mono ?_); rintro e w' ⟨rfl, ⟨nd, rfl⟩⟩; (try first | exact ⟨rfl, _, World.drewN_drewN _ _ _⟩ | exact ⟨rfl, _, Eq.trans (World.drewN_drewN _ _ _) (congrArg (World.drewN _) (Nat.add_assoc _ _ _))⟩))); try go_wp2_with (first | (go_at_call 166; (with_reducible refine (spec_cronUpper.calls (bt a0 x13_1) t138 _ A8.out).mono ?_); rintro e w' ⟨rfl, ⟨nd, rfl⟩⟩; (try first | exact ⟨rfl, _, World.drewN_drewN _ _ _⟩ | exact ⟨rfl, _, Eq.trans (World.drewN_drewN _ _ _) (congrArg (World.drewN _) (Nat.add_assoc _ _ _))⟩); have p10 : 0 ≤ (x13_1 : Int) := of_decide_eq_true (by assumption); have q10 : x13_1 < (a1.size : Int) := of_decide_eq_true (by assumption); have hx10 := bt_at a1 x13_1; replace p10 := eq_true p10; replace q10 := eq_true q10) | (go_at_call 166; (with_reducible refine (spec_cronUpper.calls (bt a1 x13_1) t139 _ A11.out).mono ?_); rintro e w' ⟨rfl, ⟨nd, rfl⟩⟩; (try first | exact ⟨rfl, _, World.drewN_drewN _ _ _⟩ | exact ⟨rfl, _, Eq.trans (World.drewN_drewN _ _ _) (congrArg (World.drewN _) (Nat.add_assoc _ _ _))⟩))))
         go_roundg k1
         case measure => have := HK1.out; omega
         case rel => exact ⟨(wrap64 (x13_1 + 1)), (by first | rfl | simp [*]), H', ⟨by have := HK1.out; omega⟩, by repeat (first | exact Drawn0.refl _ | apply Drawn0.step)⟩
        ·rw [if_neg c12] at H
         have c12b0 : (t138 == t139) = false := beq_eq_false_iff_ne.mpr c12
         have c12b1 : (t138 != t139) = true := bne_iff_ne.mpr c12
         obtain rfl := Option.some.inj H
         have p7 : 0 ≤ (x13_1 : Int) := of_decide_eq_true (by assumption)
         have q7 : x13_1 < (a0.size : Int) := of_decide_eq_true (by assumption)
         have hx7 := bt_at a0 x13_1
         replace p7 := eq_true p7
         replace q7 := eq_true q7
         go_wp2_with (first | (go_at_call 166; (with_reducible refine (spec_cronUpper.calls (bt a0 x13_1) t138 _ A8.out).mono ?_); rintro e w' ⟨rfl, ⟨nd, rfl⟩⟩; (try first | exact ⟨rfl, _, World.drewN_drewN _ _ _⟩ | exact ⟨rfl, _, Eq.trans (World.drewN_drewN _ _ _) (congrArg (World.drewN _) (Nat.add_assoc _ _ _))⟩); have p10 : 0 ≤ (x13_1 : Int) := of_decide_eq_true (by assumption); have q10 : x13_1 < (a1.size : Int) := of_decide_eq_true (by assumption); have hx10 := bt_at a1 x13_1; replace p10 := eq_true p10; replace q10 := eq_true q10) | (go_at_call 166; (with_reducible refine (spec_cronUpper.calls (bt a1 x13_1) t139 _ A11.out).mono ?_); rintro e w' ⟨rfl, ⟨nd, rfl⟩⟩; (try first | exact ⟨rfl, _, World.drewN_drewN _ _ _⟩ | exact ⟨rfl, _, Eq.trans (World.drewN_drewN _ _ _) (congrArg (World.drewN _) (Nat.add_assoc _ _ _))⟩)))
         repeat (go_quiet (first | (go_at_call 166; (with_reducible refine (spec_cronUpper.calls (bt a0 x13_1) t138 _ A8.out).mono ?_); rintro e w' ⟨rfl, ⟨nd, rfl⟩⟩; (try first | exact ⟨rfl, _, World.drewN_drewN _ _ _⟩ | exact ⟨rfl, _, Eq.trans (World.drewN_drewN _ _ _) (congrArg (World.drewN _) (Nat.add_assoc _ _ _))⟩); have p10 : 0 ≤ (x13_1 : Int) := of_decide_eq_true (by assumption); have q10 : x13_1 < (a1.size : Int) := of_decide_eq_true (by assumption); have hx10 := bt_at a1 x13_1; replace p10 := eq_true p10; replace q10 := eq_true q10) | (go_at_call 166; (with_reducible refine (spec_cronUpper.calls (bt a1 x13_1) t139 _ A11.out).mono ?_); rintro e w' ⟨rfl, ⟨nd, rfl⟩⟩; (try first | exact ⟨rfl, _, World.drewN_drewN _ _ _⟩ | exact ⟨rfl, _, Eq.trans (World.drewN_drewN _ _ _) (congrArg (World.drewN _) (Nat.add_assoc _ _ _))⟩))); try go_wp2_with (first | (go_at_call 166; (with_reducible refine (spec_cronUpper.calls (bt a0 x13_1) t138 _ A8.out).mono ?_); rintro e w' ⟨rfl, ⟨nd, rfl⟩⟩; (try first | exact ⟨rfl, _, World.drewN_drewN _ _ _⟩ | exact ⟨rfl, _, Eq.trans (World.drewN_drewN _ _ _) (congrArg (World.drewN _) (Nat.add_assoc _ _ _))⟩); have p10 : 0 ≤ (x13_1 : Int) := of_decide_eq_true (by assumption); have q10 : x13_1 < (a1.size : Int) := of_decide_eq_true (by assumption); have hx10 := bt_at a1 x13_1; replace p10 := eq_true p10; replace q10 := eq_true q10) | (go_at_call 166; (with_reducible refine (spec_cronUpper.calls (bt a1 x13_1) t139 _ A11.out).mono ?_); rintro e w' ⟨rfl, ⟨nd, rfl⟩⟩; (try first | exact ⟨rfl, _, World.drewN_drewN _ _ _⟩ | exact ⟨rfl, _, Eq.trans (World.drewN_drewN _ _ _) (congrArg (World.drewN _) (Nat.add_assoc _ _ _))⟩))))
         go_ret
         exact ⟨by first | rfl | simp [*], by repeat (first | exact Drawn0.refl _ | apply Drawn0.step)⟩
       ·rw [if_neg c9] at H
        exact absurd H (by simp)
      ·rw [if_neg c6] at H
       exact absurd H (by simp)
     ·rw [if_neg c5] at H
      exact absurd H (by simp)
    ·rw [if_neg c4] at H
     have c4b0 : decide (x13_1 < (a0.size : Int)) = false := decide_eq_false c4
     obtain rfl := Option.some.inj H
     go_wp2
     repeat (go_quiet (fail); try go_wp2)
     go_ret
     exact ⟨by first | rfl | simp [*], by repeat (first | exact Drawn0.refl _ | apply Drawn0.step)⟩
 ·rw [if_neg c3] at H
  have c3b0 : ((a0.size : Int) == (a1.size : Int)) = false := beq_eq_false_iff_ne.mpr c3
  have c3b1 : ((a0.size : Int) != (a1.size : Int)) = true := bne_iff_ne.mpr c3
  obtain rfl := Option.some.inj H
  go_enter Tryz.func158, Tryz.ntmps158
  go_wp2
  repeat (go_quiet (fail); try go_wp2)
  go_ret
  exact ⟨by first | rfl | simp [*], by repeat (first | exact Drawn0.refl _ | apply Drawn0.step)⟩
end Go.Proofs.YtcjdideliifkhaaGreatDoor.PFnCronTextAfterAnywhere
