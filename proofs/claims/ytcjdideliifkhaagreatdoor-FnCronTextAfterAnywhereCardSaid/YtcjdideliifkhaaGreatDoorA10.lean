import Derived.Test.YtcjdideliifkhaaGreatDoorA05
import Derived.Test.YtcjdideliifkhaaGreatDoorA06
set_option maxRecDepth 100000
set_option maxHeartbeats 16000000
namespace Go.Proofs.YtcjdideliifkhaaGreatDoor.PFnCronTextAfterAnywhere
open Go.RowKit Go.Proofs.YtcjdideliifkhaaGreatDoorW.PrintWords Go.Proofs.YtcjdideliifkhaaGreatDoorW.PrintLast Go.Proofs.YtcjdideliifkhaaGreatDoorW.PrintMore
attribute [local go_sem] max2_int min2_int max_two min_two max_three min_three max_four min_four
set_option linter.unusedVariables false
set_option linter.unusedSimpArgs false
mutual
def spec_CronName.j0 : Nat → Int → Int → ByteArray → Option (ByteArray)
 | 0, _, _, _ => none
 | k + 1, x0, x1, x5 => if x0 = 5 then (spec_CronName.j1 k x0 x1 (⟨#[83, 85, 78, 77, 79, 78, 84, 85, 69, 87, 69, 68, 84, 72, 85, 70, 82, 73, 83, 65, 84]⟩ : ByteArray)) else (spec_CronName.j1 k x0 x1 x5)
def spec_CronName.j1 : Nat → Int → Int → ByteArray → Option (ByteArray)
 | 0, _, _, _ => none
 | k + 1, x0, x1, x5 => if x5.toList = ([] : List UInt8) then (some (⟨#[]⟩ : ByteArray)) else ((spec_CronLow.f x0).bind fun t140 => (if x1 < t140 then (some (⟨#[]⟩ : ByteArray)) else ((spec_CronHigh.f x0).bind fun t141 => (if x1 > t141 then (some (⟨#[]⟩ : ByteArray)) else (if 0 ≤ (wrap64 (3 * x1)) then (if (wrap64 (3 * x1)) ≤ (wrap64 ((wrap64 (3 * x1)) + 3)) then (if (wrap64 ((wrap64 (3 * x1)) + 3)) ≤ (x5.size : Int) then (some (x5.extract ((wrap64 (3 * x1)) : Int).toNat ((wrap64 ((wrap64 (3 * x1)) + 3)) : Int).toNat)) else (none)) else (none)) else (none))))))
end
def spec_CronName.f (k : Nat) (a0 : Int) (a1 : Int) : Option (ByteArray) := if a0 = 4 then (spec_CronName.j0 k a0 a1 (⟨#[46, 46, 46, 74, 65, 78, 70, 69, 66, 77, 65, 82, 65, 80, 82, 77, 65, 89, 74, 85, 78, 74, 85, 76, 65, 85, 71, 83, 69, 80, 79, 67, 84, 78, 79, 86, 68, 69, 67]⟩ : ByteArray)) else (spec_CronName.j0 k a0 a1 (⟨#[]⟩ : ByteArray))
theorem spec_CronName.calls (k : Nat) (a0 : Int) (a1 : Int) (r : ByteArray) (w : World) (h : spec_CronName.f k a0 a1 = some r) :
  Calls Tryz.prog 159 #[.int .i64 a0, .int .i64 a1] w fun e w' => e = .returned (.string r) ∧ Drawn0 w w' := by
 have H : (if a0 = 4 then (spec_CronName.j0 k a0 a1 (⟨#[46, 46, 46, 74, 65, 78, 70, 69, 66, 77, 65, 82, 65, 80, 82, 77, 65, 89, 74, 85, 78, 74, 85, 76, 65, 85, 71, 83, 69, 80, 79, 67, 84, 78, 79, 86, 68, 69, 67]⟩ : ByteArray)) else (spec_CronName.j0 k a0 a1 (⟨#[]⟩ : ByteArray))) = some r := h
 clear h
 have HC3 := Aside0.mk H
 clear H
 go_enter Tryz.func159, Tryz.ntmps159
 go_upto_if 7 with (fail)
 go_cut [5] (fun v5 wc => ∃ (kq : Nat) (x5_2 : ByteArray), v5 = .string x5_2 ∧ Aside0 (spec_CronName.j0 kq a0 a1 x5_2 = some r) ∧ Aside0 (kq ≤ k) ∧ Drawn0 w wc)
 case first =>
  have H := HC3.out
  clear HC3
  by_cases c4 : a0 = 4
  ·rw [if_pos c4] at H
   have c4b0 : (a0 == 4) = true := beq_iff_eq.mpr c4
   clear c4
   (first | rw [c4b0] | (simp only [i64_w, i32_w]; rw [c4b0]) | skip)
   have H' := Aside0.mk H
   clear H
   go_wp2
   go_meet
   case rel => exact ⟨_, ((⟨#[46, 46, 46, 74, 65, 78, 70, 69, 66, 77, 65, 82, 65, 80, 82, 77, 65, 89, 74, 85, 78, 74, 85, 76, 65, 85, 71, 83, 69, 80, 79, 67, 84, 78, 79, 86, 68, 69, 67]⟩ : ByteArray)), (by first | rfl | simp [*]), H', ⟨by first | omega | exact Nat.le_refl _⟩, by repeat (first | exact Drawn0.refl _ | apply Drawn0.step)⟩
  ·rw [if_neg c4] at H
   have c4b0 : (a0 == 4) = false := beq_eq_false_iff_ne.mpr c4
   (first | rw [c4b0] | (simp only [i64_w, i32_w]; rw [c4b0]) | skip)
   have H' := Aside0.mk H
   clear H
   go_wp2
   go_meet
   case rel => exact ⟨_, ((⟨#[]⟩ : ByteArray)), (by first | rfl | simp [*]), H', ⟨by first | omega | exact Nat.le_refl _⟩, by repeat (first | exact Drawn0.refl _ | apply Drawn0.step)⟩
 case rest =>
  clear HC3
  obtain ⟨kq, x5_2, rfl, HA, HJ2, ⟨mc2, rfl⟩⟩ := hcut
  cases kq with
  | zero => exact absurd HA.out (by simp [spec_CronName.j0])
  | succ kj2 =>
   have H := HA.out
   clear HA
   simp only [spec_CronName.j0] at H
   have HC5 := Aside0.mk H
   clear H
   go_upto_if 9 with (fail)
   go_cut [5] (fun v5 wc => ∃ (kq : Nat) (x5_4 : ByteArray), v5 = .string x5_4 ∧ Aside0 (spec_CronName.j1 kq a0 a1 x5_4 = some r) ∧ Aside0 (kq ≤ kj2) ∧ Drawn0 w wc)
   case first =>
    have H := HC5.out
    clear HC5
    by_cases c6 : a0 = 5
    ·rw [if_pos c6] at H
     have c6b0 : (a0 == 5) = true := beq_iff_eq.mpr c6
     clear c6
     (first | rw [c6b0] | (simp only [i64_w, i32_w]; rw [c6b0]) | skip)
     have H' := Aside0.mk H
     clear H
     go_wp2
     go_meet
     case rel => exact ⟨_, ((⟨#[83, 85, 78, 77, 79, 78, 84, 85, 69, 87, 69, 68, 84, 72, 85, 70, 82, 73, 83, 65, 84]⟩ : ByteArray)), (by first | rfl | simp [*]), H', ⟨by have := HJ2.out; first | omega | exact Nat.le_refl _⟩, by repeat (first | exact Drawn0.refl _ | apply Drawn0.step)⟩
    ·rw [if_neg c6] at H
     have c6b0 : (a0 == 5) = false := beq_eq_false_iff_ne.mpr c6
     (first | rw [c6b0] | (simp only [i64_w, i32_w]; rw [c6b0]) | skip)
     have H' := Aside0.mk H
     clear H
     go_wp2
     go_meet
     case rel => exact ⟨_, (x5_2), (by first | rfl | simp [*]), H', ⟨by have := HJ2.out; first | omega | exact Nat.le_refl _⟩, by repeat (first | exact Drawn0.refl _ | apply Drawn0.step)⟩
   case rest =>
    clear HC5
    obtain ⟨kq, x5_4, rfl, HA, HJ4, ⟨mc4, rfl⟩⟩ := hcut
    cases kq with
    | zero => exact absurd HA.out (by simp [spec_CronName.j1])
    | succ kj4 =>
     have H := HA.out
     clear HA
     simp only [spec_CronName.j1] at H
     by_cases c7 : x5_4.toList = ([] : List UInt8)
     ·rw [if_pos c7] at H
      have c7b0 : (x5_4.toList == ([] : List UInt8)) = true := beq_iff_eq.mpr c7
      clear c7
      obtain rfl := Option.some.inj H
      go_wp2
      go_ret
      exact ⟨by first | rfl | simp [*], by repeat (first | exact Drawn0.refl _ | apply Drawn0.step)⟩
     ·rw [if_neg c7] at H
      have c7b0 : (x5_4.toList == ([] : List UInt8)) = false := beq_eq_false_iff_ne.mpr c7
      replace H := Option.bind_eq_some_iff.mp H
      obtain ⟨t140, A80, H⟩ := H
      replace H : (if a1 < t140 then (some (⟨#[]⟩ : ByteArray)) else ((spec_CronHigh.f a0).bind fun t141 => (if a1 > t141 then (some (⟨#[]⟩ : ByteArray)) else (if 0 ≤ (wrap64 (3 * a1)) then (if (wrap64 (3 * a1)) ≤ (wrap64 ((wrap64 (3 * a1)) + 3)) then (if (wrap64 ((wrap64 (3 * a1)) + 3)) ≤ (x5_4.size : Int) then (some (x5_4.extract ((wrap64 (3 * a1)) : Int).toNat ((wrap64 ((wrap64 (3 * a1)) + 3)) : Int).toNat)) else (none)) else (none)) else (none))))) = some r := H
      have A8 := Aside0.mk A80
      clear A80
      by_cases c9 : a1 < t140
      ·rw [if_pos c9] at H
       have c9b0 : decide (a1 < t140) = true := decide_eq_true c9
       clear c9
       obtain rfl := Option.some.inj H
       go_wp2_with (first | (go_at_call 114; (with_reducible refine (spec_CronLow.calls a0 t140 _ A8.out).mono ?_); rintro e w' ⟨rfl, ⟨nd, rfl⟩⟩))
       go_ret
       exact ⟨by first | rfl | simp [*], by repeat (first | exact Drawn0.refl _ | apply Drawn0.step)⟩
      ·rw [if_neg c9] at H
       have c9b0 : decide (a1 < t140) = false := decide_eq_false c9
       clear c9
       replace H := Option.bind_eq_some_iff.mp H
       obtain ⟨t141, A100, H⟩ := H
       replace H : (if a1 > t141 then (some (⟨#[]⟩ : ByteArray)) else (if 0 ≤ (wrap64 (3 * a1)) then (if (wrap64 (3 * a1)) ≤ (wrap64 ((wrap64 (3 * a1)) + 3)) then (if (wrap64 ((wrap64 (3 * a1)) + 3)) ≤ (x5_4.size : Int) then (some (x5_4.extract ((wrap64 (3 * a1)) : Int).toNat ((wrap64 ((wrap64 (3 * a1)) + 3)) : Int).toNat)) else (none)) else (none)) else (none))) = some r := H
       have A10 := Aside0.mk A100
       clear A100
       by_cases c11 : a1 > t141
       ·rw [if_pos c11] at H
        have c11b0 : decide (t141 < a1) = true := decide_eq_true c11
        clear c11
        obtain rfl := Option.some.inj H
        go_wp2_with (first | (go_at_call 114; (with_reducible refine (spec_CronLow.calls a0 t140 _ A8.out).mono ?_); rintro e w' ⟨rfl, ⟨nd, rfl⟩⟩) | (go_at_call 115; (with_reducible refine (spec_CronHigh.calls a0 t141 _ A10.out).mono ?_); rintro e w' ⟨rfl, ⟨nd, rfl⟩⟩))
        go_ret
        exact ⟨by first | rfl | simp [*], by repeat (first | exact Drawn0.refl _ | apply Drawn0.step)⟩
       ·rw [if_neg c11] at H
        have c11b0 : decide (t141 < a1) = false := decide_eq_false c11
        clear c11
        obtain ⟨ji12, hji12⟩ : ∃ j_ : Int, (wrap64 (3 * a1)) = j_ := ⟨_, rfl⟩
        replace H : (if 0 ≤ (ji12) then (if (ji12) ≤ (wrap64 ((ji12) + 3)) then (if (wrap64 ((ji12) + 3)) ≤ (x5_4.size : Int) then (some (x5_4.extract ((ji12) : Int).toNat ((wrap64 ((ji12) + 3)) : Int).toNat)) else (none)) else (none)) else (none)) = some r := by first | (rw [hji12] at H; exact H) | (simp only [hji12] at H ⊢; exact H)
        have hji12w : (IntKind.i64.wrap (3 * a1)) = ji12 := (i64_w _).trans hji12
        by_cases c13 : 0 ≤ (ji12)
        ·rw [if_pos c13] at H
         have c13b0 := eq_true c13
         clear c13
         by_cases c14 : (ji12) ≤ (wrap64 ((ji12) + 3))
         ·rw [if_pos c14] at H
          have c14b0 := eq_true c14
          by_cases c15 : (wrap64 ((ji12) + 3)) ≤ (x5_4.size : Int)
          ·rw [if_pos c15] at H
           have c15b0 := eq_true c15
           obtain rfl := Option.some.inj H
           go_wp2_with (first | (go_at_call 114; (with_reducible refine (spec_CronLow.calls a0 t140 _ A8.out).mono ?_); rintro e w' ⟨rfl, ⟨nd, rfl⟩⟩) | (go_at_call 115; (with_reducible refine (spec_CronHigh.calls a0 t141 _ A10.out).mono ?_); rintro e w' ⟨rfl, ⟨nd, rfl⟩⟩))
           go_ret
           exact ⟨by first | rfl | (simp; done) | (simp only [← hji12] <;> (first | rfl | simp)) | (simp [*]; done), by repeat (first | exact Drawn0.refl _ | apply Drawn0.step)⟩
          ·rw [if_neg c15] at H
           exact absurd H (by simp)
         ·rw [if_neg c14] at H
          exact absurd H (by simp)
        ·rw [if_neg c13] at H
         exact absurd H (by simp)
mutual
def spec_CronValue.j0 : Nat → Int → ByteArray → Bool → Option (Int × Int)
 | 0, _, _, _ => none
 | k + 1, x0, x1, x6 => if x6 = true then ((spec_CronLow.f x0).bind fun t142 => (spec_CronValue.l0 k x0 x1 x6 t142)) else (spec_CronValue.j2 k x1 x6)
def spec_CronValue.j2 : Nat → ByteArray → Bool → Option (Int × Int)
 | 0, _, _ => none
 | k + 1, x1, x6 => if x6 = true then ((spec_cronForeign.f k x1).bind fun t146 => (if t146 = true then (some (0, 2)) else ((spec_CronNumber.f k x1).bind fun bt147 => (some (bt147.1, bt147.2))))) else ((spec_CronNumber.f k x1).bind fun bt149 => (some (bt149.1, bt149.2)))
def spec_CronValue.l0 : Nat → Int → ByteArray → Bool → Int → Option (Int × Int)
 | 0, _, _, _, _ => none
 | k + 1, x0, x1, x6, x7 => (spec_CronHigh.f x0).bind fun t143 => (if x7 ≤ t143 then ((spec_CronName.f k x0 x7).bind fun t144 => ((spec_cronSame.f k t144 x1).bind fun t145 => (if t145 = true then (some (x7, 1)) else (spec_CronValue.l0 k x0 x1 x6 (wrap64 (x7 + 1)))))) else (spec_CronValue.j2 k x1 x6))
end
def spec_CronValue.f (k : Nat) (a0 : Int) (a1 : ByteArray) : Option (Int × Int) := if a0 = 4 then (spec_CronValue.j0 k a0 a1 true) else (spec_CronValue.j0 k a0 a1 (a0 == 5))
theorem spec_CronValue.calls (k : Nat) (a0 : Int) (a1 : ByteArray) (r1 : Int) (r2 : Int) (w : World) (h : spec_CronValue.f k a0 a1 = some (r1, r2)) :
  Calls Tryz.prog 153 #[.int .i64 a0, .string a1] w fun e w' => e = .returned (.tuple #[.int .i64 r1, .int .i64 r2]) ∧ Below w.heap.size w w' := by
 have HB := Aside0.mk (Below.refl w.heap.size w)
 have H : (if a0 = 4 then (spec_CronValue.j0 k a0 a1 true) else (spec_CronValue.j0 k a0 a1 (a0 == 5))) = some (r1, r2) := h
 clear h
 have HC3 := Aside0.mk H
 clear H
 go_enter Tryz.func153, Tryz.ntmps153
 go_upto_region 1 with (fail)
 go_cut [6] (fun v6 wc => ∃ (kq : Nat) (x6_2 : Bool), v6 = .bool x6_2 ∧ Aside0 (spec_CronValue.j0 kq a0 a1 x6_2 = some (r1, r2)) ∧ Aside0 (kq ≤ k) ∧ Aside0 (Below w.heap.size w wc))
 case first =>
  have H := HC3.out
  clear HC3
  by_cases c4 : a0 = 4
  ·rw [if_pos c4] at H
   have c4b0 : (a0 == 4) = true := beq_iff_eq.mpr c4
   (first | rw [c4b0] | (simp only [i64_w, i32_w]; rw [c4b0]) | skip)
   have H' := Aside0.mk H
   clear H
   go_wp2
   go_meet
   case rel => exact ⟨_, (true), (by first | rfl | simp [*]), H', ⟨by first | omega | exact Nat.le_refl _⟩, ⟨by repeat (first | (with_reducible first | exact HB.out | apply below_alloc | apply pw_below_drewN | apply below_drew1) | exact HB.out)⟩⟩
  ·rw [if_neg c4] at H
   have c4b0 : (a0 == 4) = false := beq_eq_false_iff_ne.mpr c4
   (first | rw [c4b0] | (simp only [i64_w, i32_w]; rw [c4b0]) | skip)
   have H' := Aside0.mk H
   clear H
   go_wp2
   go_meet
   case rel => exact ⟨_, ((a0 == 5)), (by first | rfl | simp [*]), H', ⟨by first | omega | exact Nat.le_refl _⟩, ⟨by repeat (first | (with_reducible first | exact HB.out | apply below_alloc | apply pw_below_drewN | apply below_drew1) | exact HB.out)⟩⟩
 case rest =>
  clear HC3
  obtain ⟨kq, x6_2, rfl, HA, HJ2, HB⟩ := hcut
  cases kq with
  | zero => exact absurd HA.out (by simp [spec_CronValue.j0])
  | succ kj2 =>
   have H := HA.out
   clear HA
   simp only [spec_CronValue.j0] at H
   have HC5 := Aside0.mk H
   clear H
   go_upto_if 14 with (fail)
   go_cut [] (fun wc => ∃ (kq : Nat), Aside0 (spec_CronValue.j2 kq a1 x6_2 = some (r1, r2)) ∧ Aside0 (kq ≤ kj2) ∧ Aside0 (Below w.heap.size w wc))
   case first =>
    have H := HC5.out
    clear HC5
    by_cases c6 : x6_2 = true
    ·subst c6
     have H1 : ((spec_CronLow.f a0).bind fun t142 => (spec_CronValue.l0 kj2 a0 a1 true t142)) = some (r1, r2) := by rw [if_pos rfl] at H; exact H
     clear H
     have H := H1
     clear H1
     replace H := Option.bind_eq_some_iff.mp H
     obtain ⟨t142, A70, H⟩ := H
     replace H : (spec_CronValue.l0 kj2 a0 a1 true t142) = some (r1, r2) := H
     have A7 := Aside0.mk A70
     clear A70
     have H' := Aside0.mk H
     clear H
     go_wp2_with (first | ((with_reducible refine gate_callee (f := 114) rfl ?_); refine goesL_ (some 16) rfl rfl Tryz.func114 (by kernel_rfl) rfl #[.int .i64 a0] rfl (by (try simp only [List.map_toArray, List.map_cons, List.map_nil]); first | done | rfl | (simp only [List.length_drop, List.length_take]; rfl)) ?_; (with_reducible refine (spec_CronLow.calls a0 t142 _ A7.out).mono ?_); rintro e w' ⟨rfl, ⟨nd, rfl⟩⟩; refine ⟨_, rfl, ?_⟩))
     go_loopg [7] kj2 (fun kq v7 w' => ∃ (x7_2 : Int), v7 = .int .i64 x7_2 ∧ Aside0 (spec_CronValue.l0 kq a0 a1 true x7_2 = some (r1, r2)) ∧ Aside0 (kq ≤ kj2) ∧ Aside0 (Below w.heap.size w w'))
     case atStart => exact ⟨(t142), (by first | rfl | simp [*]), H', ⟨Nat.le_refl _⟩, ⟨by repeat (first | (with_reducible first | exact HB.out | apply below_alloc | apply pw_below_drewN | apply below_drew1) | exact HB.out)⟩⟩
     case round =>
      clear H'
      obtain ⟨x7_2, rfl, HA, HK2, HB⟩ := hrel
      cases gk with
      | zero => exact absurd HA.out (by simp [spec_CronValue.l0])
      | succ k2 =>
       have H := HA.out
       clear HA
       simp only [spec_CronValue.l0] at H
       replace H := Option.bind_eq_some_iff.mp H
       obtain ⟨t143, A80, H⟩ := H
       replace H : (if x7_2 ≤ t143 then ((spec_CronName.f k2 a0 x7_2).bind fun t144 => ((spec_cronSame.f k2 t144 a1).bind fun t145 => (if t145 = true then (some (x7_2, 1)) else (spec_CronValue.l0 k2 a0 a1 true (wrap64 (x7_2 + 1)))))) else (spec_CronValue.j2 k2 a1 true)) = some (r1, r2) := H
       have A8 := Aside0.mk A80
       clear A80
       by_cases c9 : x7_2 ≤ t143
       ·rw [if_pos c9] at H
        have c9b0 : decide (x7_2 ≤ t143) = true := decide_eq_true c9
        (first | rw [c9b0] | (simp only [i64_w, i32_w]; rw [c9b0]) | skip)
        replace H := Option.bind_eq_some_iff.mp H
        obtain ⟨t144, A100, H⟩ := H
        replace H : ((spec_cronSame.f k2 t144 a1).bind fun t145 => (if t145 = true then (some (x7_2, 1)) else (spec_CronValue.l0 k2 a0 a1 true (wrap64 (x7_2 + 1))))) = some (r1, r2) := H
        have A10 := Aside0.mk A100
        clear A100
        replace H := Option.bind_eq_some_iff.mp H
        obtain ⟨t145, A110, H⟩ := H
        replace H : (if t145 = true then (some (x7_2, 1)) else (spec_CronValue.l0 k2 a0 a1 true (wrap64 (x7_2 + 1)))) = some (r1, r2) := H
        have A11 := Aside0.mk A110
        clear A110
        by_cases c12 : t145 = true
        ·subst c12
         have H1 : (some (x7_2, 1)) = some (r1, r2) := by rw [if_pos rfl] at H; exact H
         clear H
         have H := H1
         clear H1
         simp only [Option.some.injEq, Prod.mk.injEq] at H
         obtain ⟨rfl, rfl⟩ := H
         go_wp2_with (first | ((with_reducible refine gate_callee (f := 115) rfl ?_); refine goesL_ (some 19) rfl rfl Tryz.func115 (by kernel_rfl) rfl #[.int .i64 a0] rfl (by (try simp only [List.map_toArray, List.map_cons, List.map_nil]); first | done | rfl | (simp only [List.length_drop, List.length_take]; rfl)) ?_; (with_reducible refine (spec_CronHigh.calls a0 t143 _ A8.out).mono ?_); rintro e w' ⟨rfl, ⟨nd, rfl⟩⟩; refine ⟨_, rfl, ?_⟩) | ((with_reducible refine gate_callee (f := 159) rfl ?_); refine goesL_ (some 25) rfl rfl Tryz.func159 (by kernel_rfl) rfl #[.int .i64 a0, .int .i64 x7_2] rfl (by (try simp only [List.map_toArray, List.map_cons, List.map_nil]); first | done | rfl | (simp only [List.length_drop, List.length_take]; rfl)) ?_; (with_reducible refine (spec_CronName.calls k2 a0 x7_2 t144 _ A10.out).mono ?_); rintro e w' ⟨rfl, ⟨nd, rfl⟩⟩; refine ⟨_, rfl, ?_⟩) | ((with_reducible refine gate_callee (f := 158) rfl ?_); refine goesL_ (some 27) rfl rfl Tryz.func158 (by kernel_rfl) rfl #[.string t144, .string a1] rfl (by (try simp only [List.map_toArray, List.map_cons, List.map_nil]); first | done | rfl | (simp only [List.length_drop, List.length_take]; rfl)) ?_; (with_reducible refine (spec_cronSame.calls k2 t144 a1 true _ A11.out).mono ?_); rintro e w' ⟨rfl, ⟨nd, rfl⟩⟩; refine ⟨_, rfl, ?_⟩))
         go_ret2
         exact ⟨by first | rfl | (simp [errW_none, errW_some] <;> rfl) | (simp [*, errW_none, errW_some] <;> rfl), by repeat (first | (with_reducible first | exact HB.out | apply below_alloc | apply pw_below_drewN | apply below_drew1) | exact HB.out)⟩
        ·replace c12 := Bool.eq_false_iff.mpr c12
         subst c12
         have H1 : (spec_CronValue.l0 k2 a0 a1 true (wrap64 (x7_2 + 1))) = some (r1, r2) := by rw [if_neg (show ¬ (false = true) by decide)] at H; exact H
         clear H
         have H := H1
         clear H1
         have H' := Aside0.mk H
         clear H
         go_wp2_with (first | ((with_reducible refine gate_callee (f := 115) rfl ?_); refine goesL_ (some 19) rfl rfl Tryz.func115 (by kernel_rfl) rfl #[.int .i64 a0] rfl (by (try simp only [List.map_toArray, List.map_cons, List.map_nil]); first | done | rfl | (simp only [List.length_drop, List.length_take]; rfl)) ?_; (with_reducible refine (spec_CronHigh.calls a0 t143 _ A8.out).mono ?_); rintro e w' ⟨rfl, ⟨nd, rfl⟩⟩; refine ⟨_, rfl, ?_⟩) | ((with_reducible refine gate_callee (f := 159) rfl ?_); refine goesL_ (some 25) rfl rfl Tryz.func159 (by kernel_rfl) rfl #[.int .i64 a0, .int .i64 x7_2] rfl (by (try simp only [List.map_toArray, List.map_cons, List.map_nil]); first | done | rfl | (simp only [List.length_drop, List.length_take]; rfl)) ?_; (with_reducible refine (spec_CronName.calls k2 a0 x7_2 t144 _ A10.out).mono ?_); rintro e w' ⟨rfl, ⟨nd, rfl⟩⟩; refine ⟨_, rfl, ?_⟩) | ((with_reducible refine gate_callee (f := 158) rfl ?_); refine goesL_ (some 27) rfl rfl Tryz.func158 (by kernel_rfl) rfl #[.string t144, .string a1] rfl (by (try simp only [List.map_toArray, List.map_cons, List.map_nil]); first | done | rfl | (simp only [List.length_drop, List.length_take]; rfl)) ?_; (with_reducible refine (spec_cronSame.calls k2 t144 a1 false _ A11.out).mono ?_); rintro e w' ⟨rfl, ⟨nd, rfl⟩⟩; refine ⟨_, rfl, ?_⟩))
         go_roundg k2
         case measure => have := HJ2.out; have := HK2.out; omega
         case rel => exact ⟨(wrap64 (x7_2 + 1)), (by first | rfl | simp [*]), H', ⟨by have := HJ2.out; have := HK2.out; omega⟩, ⟨by repeat (first | (with_reducible first | exact HB.out | apply below_alloc | apply pw_below_drewN | apply below_drew1) | exact HB.out)⟩⟩
       ·rw [if_neg c9] at H
        have c9b0 : decide (x7_2 ≤ t143) = false := decide_eq_false c9
        (first | rw [c9b0] | (simp only [i64_w, i32_w]; rw [c9b0]) | skip)
        have H' := Aside0.mk H
        clear H
        go_wp2_with (first | ((with_reducible refine gate_callee (f := 115) rfl ?_); refine goesL_ (some 19) rfl rfl Tryz.func115 (by kernel_rfl) rfl #[.int .i64 a0] rfl (by (try simp only [List.map_toArray, List.map_cons, List.map_nil]); first | done | rfl | (simp only [List.length_drop, List.length_take]; rfl)) ?_; (with_reducible refine (spec_CronHigh.calls a0 t143 _ A8.out).mono ?_); rintro e w' ⟨rfl, ⟨nd, rfl⟩⟩; refine ⟨_, rfl, ?_⟩))
        go_meet
        case rel => exact ⟨_, H', ⟨by have := HJ2.out; have := HK2.out; first | omega | exact Nat.le_refl _⟩, ⟨by repeat (first | (with_reducible first | exact HB.out | apply below_alloc | apply pw_below_drewN | apply below_drew1) | exact HB.out)⟩⟩
    ·replace c6 := Bool.eq_false_iff.mpr c6
     subst c6
     have H1 : (spec_CronValue.j2 kj2 a1 false) = some (r1, r2) := by rw [if_neg (show ¬ (false = true) by decide)] at H; exact H
     clear H
     have H := H1
     clear H1
     have H' := Aside0.mk H
     clear H
     go_wp2
     go_meet
     case rel => exact ⟨_, H', ⟨by have := HJ2.out; first | omega | exact Nat.le_refl _⟩, ⟨by repeat (first | (with_reducible first | exact HB.out | apply below_alloc | apply pw_below_drewN | apply below_drew1) | exact HB.out)⟩⟩
   case rest =>
    clear HC5
    obtain ⟨kq, HA, HJ4, HB⟩ := hcut
    cases kq with
    | zero => exact absurd HA.out (by simp [spec_CronValue.j2])
    | succ kj4 =>
     have H := HA.out
     clear HA
     simp only [spec_CronValue.j2] at H
     by_cases c13 : x6_2 = true
     ·subst c13
      have H1 : ((spec_cronForeign.f kj4 a1).bind fun t146 => (if t146 = true then (some (0, 2)) else ((spec_CronNumber.f kj4 a1).bind fun bt147 => (some (bt147.1, bt147.2))))) = some (r1, r2) := by rw [if_pos rfl] at H; exact H
      clear H
      have H := H1
      clear H1
      replace H := Option.bind_eq_some_iff.mp H
      obtain ⟨t146, A140, H⟩ := H
      replace H : (if t146 = true then (some (0, 2)) else ((spec_CronNumber.f kj4 a1).bind fun bt147 => (some (bt147.1, bt147.2)))) = some (r1, r2) := H
      have A14 := Aside0.mk A140
      clear A140
      by_cases c15 : t146 = true
      ·subst c15
       have H1 : (some (0, 2)) = some (r1, r2) := by rw [if_pos rfl] at H; exact H
       clear H
       have H := H1
       clear H1
       simp only [Option.some.injEq, Prod.mk.injEq] at H
       obtain ⟨rfl, rfl⟩ := H
       go_wp2_with (first | (go_at_call 27; (with_reducible refine (spec_cronForeign.calls kj4 a1 true _ A14.out).mono ?_); rintro e w' ⟨rfl, ⟨nd, rfl⟩⟩))
       go_ret2
       exact ⟨by first | rfl | (simp [errW_none, errW_some] <;> rfl) | (simp [*, errW_none, errW_some] <;> rfl), by repeat (first | (with_reducible first | exact HB.out | apply below_alloc | apply pw_below_drewN | apply below_drew1) | exact HB.out)⟩
      ·replace c15 := Bool.eq_false_iff.mpr c15
       subst c15
       have H1 : ((spec_CronNumber.f kj4 a1).bind fun bt147 => (some (bt147.1, bt147.2))) = some (r1, r2) := by rw [if_neg (show ¬ (false = true) by decide)] at H; exact H
       clear H
       have H := H1
       clear H1
       replace H := Option.bind_eq_some_iff.mp H
       obtain ⟨⟨t147, t148⟩, A160, H⟩ := H
       replace H : (some (t147, t148)) = some (r1, r2) := H
       have A16 := Aside0.mk A160
       clear A160
       simp only [Option.some.injEq, Prod.mk.injEq] at H
       obtain ⟨rfl, rfl⟩ := H
       go_wp2_with (first | (go_at_call 27; (with_reducible refine (spec_cronForeign.calls kj4 a1 false _ A14.out).mono ?_); rintro e w' ⟨rfl, ⟨nd, rfl⟩⟩) | ((with_reducible refine gate_callee (f := 154) rfl ?_); refine goesL_ (some 35) rfl rfl Tryz.func154 (by kernel_rfl) rfl #[.string a1] rfl (by (try simp only [List.map_toArray, List.map_cons, List.map_nil]); first | done | rfl | (simp only [List.length_drop, List.length_take]; rfl)) ?_; (with_reducible refine (spec_CronNumber.calls kj4 a1 t147 t148 _ A16.out).mono ?_); rintro e w17 ⟨rfl, hb⟩; refine ⟨_, rfl, ?_⟩; have n0_ := Aside0.mk (below_step (by repeat (first | (with_reducible first | exact HB.out | apply below_alloc | apply pw_below_drewN | apply below_drew1) | exact HB.out)) hb); clear HB; have HB := n0_; clear n0_; (try clear hb); (try clear hb2); (try clear hk); (try clear hi)))
       go_ret2
       exact ⟨by first | rfl | (simp [errW_none, errW_some] <;> rfl) | (simp [*, errW_none, errW_some] <;> rfl), by repeat (first | (with_reducible first | exact HB.out | apply below_alloc | apply pw_below_drewN | apply below_drew1) | exact HB.out)⟩
     ·replace c13 := Bool.eq_false_iff.mpr c13
      subst c13
      have H1 : ((spec_CronNumber.f kj4 a1).bind fun bt149 => (some (bt149.1, bt149.2))) = some (r1, r2) := by rw [if_neg (show ¬ (false = true) by decide)] at H; exact H
      clear H
      have H := H1
      clear H1
      replace H := Option.bind_eq_some_iff.mp H
      obtain ⟨⟨t149, t150⟩, A180, H⟩ := H
      replace H : (some (t149, t150)) = some (r1, r2) := H
      have A18 := Aside0.mk A180
      clear A180
      simp only [Option.some.injEq, Prod.mk.injEq] at H
      obtain ⟨rfl, rfl⟩ := H
      go_wp2_with (first | ((with_reducible refine gate_callee (f := 154) rfl ?_); refine goesL_ (some 35) rfl rfl Tryz.func154 (by kernel_rfl) rfl #[.string a1] rfl (by (try simp only [List.map_toArray, List.map_cons, List.map_nil]); first | done | rfl | (simp only [List.length_drop, List.length_take]; rfl)) ?_; (with_reducible refine (spec_CronNumber.calls kj4 a1 t149 t150 _ A18.out).mono ?_); rintro e w19 ⟨rfl, hb⟩; refine ⟨_, rfl, ?_⟩; have n0_ := Aside0.mk (below_step (by repeat (first | (with_reducible first | exact HB.out | apply below_alloc | apply pw_below_drewN | apply below_drew1) | exact HB.out)) hb); clear HB; have HB := n0_; clear n0_; (try clear hb); (try clear hb2); (try clear hk); (try clear hi)))
      go_ret2
      exact ⟨by first | rfl | (simp [errW_none, errW_some] <;> rfl) | (simp [*, errW_none, errW_some] <;> rfl), by repeat (first | (with_reducible first | exact HB.out | apply below_alloc | apply pw_below_drewN | apply below_drew1) | exact HB.out)⟩
attribute [local go_sem] max2_int min2_int max_two min_two max_three min_three max_four min_four
end Go.Proofs.YtcjdideliifkhaaGreatDoor.PFnCronTextAfterAnywhere
namespace Go.Proofs.YtcjdideliifkhaaGreatDoor.PzzSplit
open Go.RowKit Go.Proofs.YtcjdideliifkhaaGreatDoorW.PrintWords Go.Proofs.YtcjdideliifkhaaGreatDoorW.PrintLast Go.Proofs.YtcjdideliifkhaaGreatDoorW.PrintMore
attribute [local go_sem] max2_int min2_int max_two min_two max_three min_three max_four min_four
def errW : Option Int → Value
 | none => .nilIface
 | some c => .iface 0 (.int .i64 c)
theorem errW_none : errW none = .nilIface := rfl
theorem errW_some (c : Int) : errW (some c) = .iface 0 (.int .i64 c) := rfl
theorem info9 : (Tryz.prog.info? 9).map (fun i => (i.zero, i.size, i.bytes)) = some (some (.string ⟨#[]⟩), 1, 16) := by kernel_rfl
end Go.Proofs.YtcjdideliifkhaaGreatDoor.PzzSplit
