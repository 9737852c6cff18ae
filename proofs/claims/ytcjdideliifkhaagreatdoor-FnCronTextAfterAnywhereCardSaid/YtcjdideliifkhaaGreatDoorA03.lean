import Derived.Test.YtcjdideliifkhaaGreatDoorProg
import Derived.Test.YtcjdideliifkhaaGreatDoorA02
set_option maxRecDepth 100000
set_option maxHeartbeats 16000000
namespace Go.Proofs.YtcjdideliifkhaaGreatDoor.PFnCronTextAfterAnywhere
open Go.RowKit Go.Proofs.YtcjdideliifkhaaGreatDoorW.PrintWords Go.Proofs.YtcjdideliifkhaaGreatDoorW.PrintLast Go.Proofs.YtcjdideliifkhaaGreatDoorW.PrintMore
attribute [local go_sem] max2_int min2_int max_two min_two max_three min_three max_four min_four
set_option linter.unusedVariables false
set_option linter.unusedSimpArgs false
def errW : Option Int → Value
 | none => .nilIface
 | some c => .iface 0 (.int .i64 c)
theorem errW_none : errW none = .nilIface := rfl
theorem errW_some (c : Int) : errW (some c) = .iface 0 (.int .i64 c) := rfl
theorem info9 : (Tryz.prog.info? 9).map (fun i => (i.zero, i.size, i.bytes)) = some (some (.string ⟨#[]⟩), 1, 16) := by kernel_rfl
attribute [local go_sem] max2_int min2_int max_two min_two max_three min_three max_four min_four
def spec_CronTwoOptional.f (a0 : Int) : Option (Bool) := if (Go.bits .and .i64 a0 2) = 0 then (some false) else (some ((Go.bits .and .i64 a0 128) != 0))
theorem spec_CronTwoOptional.calls (a0 : Int) (r : Bool) (w : World) (h : spec_CronTwoOptional.f a0 = some r) :
  Calls Tryz.prog 21 #[.int .i64 a0] w fun e w' => e = .returned (.bool r) ∧ Drawn0 w w' := by
 have H : (if (Go.bits .and .i64 a0 2) = 0 then (some false) else (some ((Go.bits .and .i64 a0 128) != 0))) = some r := h
 clear h
 by_cases c2 : (Go.bits .and .i64 a0 2) = 0
 ·rw [if_pos c2] at H
  have c2b0 : ((Go.bits .and .i64 a0 2) == 0) = true := beq_iff_eq.mpr c2
  have c2b1 : ((Go.bits .and .i64 a0 2) != 0) = false := bne_eq_false_iff_eq.mpr c2
  obtain rfl := Option.some.inj H
  go_enter Tryz.func21, Tryz.ntmps21
  go_wp2
  go_ret
  exact ⟨by first | rfl | simp [*], by repeat (first | exact Drawn0.refl _ | apply Drawn0.step)⟩
 ·rw [if_neg c2] at H
  have c2b0 : ((Go.bits .and .i64 a0 2) == 0) = false := beq_eq_false_iff_ne.mpr c2
  have c2b1 : ((Go.bits .and .i64 a0 2) != 0) = true := bne_iff_ne.mpr c2
  obtain rfl := Option.some.inj H
  go_enter Tryz.func21, Tryz.ntmps21
  go_wp2
  go_ret
  exact ⟨by first | rfl | simp [*], by repeat (first | exact Drawn0.refl _ | apply Drawn0.step)⟩
def spec_CronOptions.f (a0 : Int) : Option (Bool) := if 0 ≤ a0 then (if a0 < 512 then ((spec_CronTwoOptional.f a0).bind fun t102 => (some (!t102))) else (some false)) else (some false)
theorem spec_CronOptions.calls (a0 : Int) (r : Bool) (w : World) (h : spec_CronOptions.f a0 = some r) :
  Calls Tryz.prog 6 #[.int .i64 a0] w fun e w' => e = .returned (.bool r) ∧ Drawn0 w w' := by
 have H : (if 0 ≤ a0 then (if a0 < 512 then ((spec_CronTwoOptional.f a0).bind fun t102 => (some (!t102))) else (some false)) else (some false)) = some r := h
 clear h
 by_cases c2 : 0 ≤ a0
 ·rw [if_pos c2] at H
  have c2b0 : decide (0 ≤ a0) = true := decide_eq_true c2
  by_cases c3 : a0 < 512
  ·rw [if_pos c3] at H
   have c3b0 : decide (a0 < 512) = true := decide_eq_true c3
   replace H := Option.bind_eq_some_iff.mp H
   obtain ⟨t102, A40, H⟩ := H
   replace H : (some (!t102)) = some r := H
   have A4 := Aside0.mk A40
   clear A40
   obtain rfl := Option.some.inj H
   go_enter Tryz.func6, Tryz.ntmps6
   go_wp2_with (first | (go_at_call 21; (with_reducible refine (spec_CronTwoOptional.calls a0 t102 _ A4.out).mono ?_); rintro e w' ⟨rfl, ⟨nd, rfl⟩⟩))
   go_ret
   exact ⟨by first | rfl | simp [*], by repeat (first | exact Drawn0.refl _ | apply Drawn0.step)⟩
  ·rw [if_neg c3] at H
   have c3b0 : decide (a0 < 512) = false := decide_eq_false c3
   obtain rfl := Option.some.inj H
   go_enter Tryz.func6, Tryz.ntmps6
   go_wp2
   go_ret
   exact ⟨by first | rfl | simp [*], by repeat (first | exact Drawn0.refl _ | apply Drawn0.step)⟩
 ·rw [if_neg c2] at H
  have c2b0 : decide (0 ≤ a0) = false := decide_eq_false c2
  obtain rfl := Option.some.inj H
  go_enter Tryz.func6, Tryz.ntmps6
  go_wp2
  go_ret
  exact ⟨by first | rfl | simp [*], by repeat (first | exact Drawn0.refl _ | apply Drawn0.step)⟩
end Go.Proofs.YtcjdideliifkhaaGreatDoor.PFnCronTextAfterAnywhere
