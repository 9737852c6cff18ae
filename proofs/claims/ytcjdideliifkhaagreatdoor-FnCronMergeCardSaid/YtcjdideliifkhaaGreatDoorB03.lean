import Derived.Test.YtcjdideliifkhaaGreatDoorProg
import Derived.Test.YtcjdideliifkhaaGreatDoorB02
set_option maxRecDepth 100000
set_option maxHeartbeats 16000000
namespace Go.Proofs.YtcjdideliifkhaaGreatDoor.PFnCronTextAfterAnywhere
open Go.RowKit Go.Proofs.YtcjdideliifkhaaGreatDoorW.PrintWords Go.Proofs.YtcjdideliifkhaaGreatDoorW.PrintLast Go.Proofs.YtcjdideliifkhaaGreatDoorW.PrintMore
attribute [local go_sem] max2_int min2_int max_two min_two max_three min_three max_four min_four
set_option linter.unusedVariables false
set_option linter.unusedSimpArgs false
def errW : Option Int → Value
 | none => .nilIface
 | some c => .iface 0 (.int .i64 c)
theorem errW_none : errW none = .nilIface := rfl
theorem errW_some (c : Int) : errW (some c) = .iface 0 (.int .i64 c) := rfl
theorem info9 : (Tryz.prog.info? 9).map (fun i => (i.zero, i.size, i.bytes)) = some (some (.string ⟨#[]⟩), 1, 16) := by kernel_rfl
attribute [local go_sem] max2_int min2_int max_two min_two max_three min_three max_four min_four
def spec_cronBegins.f (a0 : ByteArray) (a1 : ByteArray) : Option (Bool) := if (a0.size : Int) ≥ (a1.size : Int) then (if 0 ≤ (a1.size : Int) then (if (a1.size : Int) ≤ (a0.size : Int) then (some ((a0.extract 0 ((a1.size : Int) : Int).toNat).toList == a1.toList)) else (none)) else (none)) else (some false)
theorem spec_cronBegins.calls (a0 : ByteArray) (a1 : ByteArray) (r : Bool) (w : World) (h : spec_cronBegins.f a0 a1 = some r) :
  Calls Tryz.prog 41 #[.string a0, .string a1] w fun e w' => e = .returned (.bool r) ∧ Drawn0 w w' := by
 have H : (if (a0.size : Int) ≥ (a1.size : Int) then (if 0 ≤ (a1.size : Int) then (if (a1.size : Int) ≤ (a0.size : Int) then (some ((a0.extract 0 ((a1.size : Int) : Int).toNat).toList == a1.toList)) else (none)) else (none)) else (some false)) = some r := h
 clear h
 by_cases c3 : (a0.size : Int) ≥ (a1.size : Int)
 ·rw [if_pos c3] at H
  have c3b0 : decide ((a1.size : Int) ≤ (a0.size : Int)) = true := decide_eq_true c3
  have c3b1 : decide (a1.size ≤ a0.size) = true := decide_eq_true (Int.ofNat_le.mp c3)
  by_cases c4 : 0 ≤ (a1.size : Int)
  ·rw [if_pos c4] at H
   have c4b0 := eq_true c4
   have c4b1 : decide (0 ≤ (a1.size : Int)) = true := decide_eq_true c4
   by_cases c5 : (a1.size : Int) ≤ (a0.size : Int)
   ·rw [if_pos c5] at H
    have c5b0 := eq_true c5
    have c5b1 : decide ((a1.size : Int) ≤ (a0.size : Int)) = true := decide_eq_true c5
    obtain rfl := Option.some.inj H
    go_enter Tryz.func41, Tryz.ntmps41
    go_wp2
    go_ret
    exact ⟨by first | rfl | simp [*], by repeat (first | exact Drawn0.refl _ | apply Drawn0.step)⟩
   ·rw [if_neg c5] at H
    exact absurd H (by simp)
  ·rw [if_neg c4] at H
   exact absurd H (by simp)
 ·rw [if_neg c3] at H
  have c3b0 : decide ((a1.size : Int) ≤ (a0.size : Int)) = false := decide_eq_false c3
  have c3b1 : decide (a1.size ≤ a0.size) = false := decide_eq_false (fun h => c3 (Int.ofNat_le.mpr h))
  obtain rfl := Option.some.inj H
  go_enter Tryz.func41, Tryz.ntmps41
  go_wp2
  go_ret
  exact ⟨by first | rfl | simp [*], by repeat (first | exact Drawn0.refl _ | apply Drawn0.step)⟩
def spec_cronForeign.l0 : Nat → ByteArray → Int → Int → Option (Bool)
 | 0, _, _, _ => none
 | k + 1, x0, x5, x6 => if x6 < x5 then (if 0 ≤ x6 then (if x6 < (x0.size : Int) then (if (bt x0 x6) ≥ 128 then (some true) else (spec_cronForeign.l0 k x0 x5 (wrap64 (x6 + 1)))) else (none)) else (none)) else (some false)
def spec_cronForeign.f (k : Nat) (a0 : ByteArray) : Option (Bool) := spec_cronForeign.l0 k a0 (a0.size : Int) 0
theorem spec_cronForeign.calls (k : Nat) (a0 : ByteArray) (r : Bool) (w : World) (h : spec_cronForeign.f k a0 = some r) :
  Calls Tryz.prog 27 #[.string a0] w fun e w' => e = .returned (.bool r) ∧ Drawn0 w w' := by
 have H : (spec_cronForeign.l0 k a0 (a0.size : Int) 0) = some r := h
 clear h
 have H' := Aside0.mk H
 clear H
 go_enter Tryz.func27, Tryz.ntmps27
 go_wp2
 go_loopg [6] k (fun kq v6 w' => ∃ (x6_1 : Int), v6 = .int .i64 x6_1 ∧ Aside0 (spec_cronForeign.l0 kq a0 (a0.size : Int) x6_1 = some r) ∧ Aside0 (kq ≤ k) ∧ Drawn0 w w')
 case atStart => exact ⟨(0), (by first | rfl | simp [*]), H', ⟨Nat.le_refl _⟩, by repeat (first | exact Drawn0.refl _ | apply Drawn0.step)⟩
 case round =>
  clear H'
  obtain ⟨x6_1, rfl, HA, HK1, ⟨m1, rfl⟩⟩ := hrel
  cases gk with
  | zero => exact absurd HA.out (by simp [spec_cronForeign.l0])
  | succ k1 =>
   have H := HA.out
   clear HA
   simp only [spec_cronForeign.l0] at H
   by_cases c2 : x6_1 < (a0.size : Int)
   ·rw [if_pos c2] at H
    have c2b0 : decide (x6_1 < (a0.size : Int)) = true := decide_eq_true c2
    by_cases c3 : 0 ≤ x6_1
    ·rw [if_pos c3] at H
     have c3b0 : decide (0 ≤ x6_1) = true := decide_eq_true c3
     by_cases c4 : x6_1 < (a0.size : Int)
     ·rw [if_pos c4] at H
      have c4b0 : decide (x6_1 < (a0.size : Int)) = true := decide_eq_true c4
      by_cases c6 : (bt a0 x6_1) ≥ 128
      ·rw [if_pos c6] at H
       have c6b0 : decide (128 ≤ (bt a0 x6_1)) = true := decide_eq_true c6
       obtain rfl := Option.some.inj H
       have p5 : 0 ≤ (x6_1 : Int) := of_decide_eq_true (by assumption)
       have q5 : x6_1 < (a0.size : Int) := of_decide_eq_true (by assumption)
       have hx5 := bt_at a0 x6_1
       replace p5 := eq_true p5
       replace q5 := eq_true q5
       go_wp2
       go_ret
       exact ⟨by first | rfl | simp [*], by repeat (first | exact Drawn0.refl _ | apply Drawn0.step)⟩
      ·rw [if_neg c6] at H
       have c6b0 : decide (128 ≤ (bt a0 x6_1)) = false := decide_eq_false c6
       have H' := Aside0.mk H
       clear H
       have p5 : 0 ≤ (x6_1 : Int) := of_decide_eq_true (by assumption)
       have q5 : x6_1 < (a0.size : Int) := of_decide_eq_true (by assumption)
       have hx5 := bt_at a0 x6_1
       replace p5 := eq_true p5
       replace q5 := eq_true q5
       go_wp2
       go_roundg k1
       case measure => have := HK1.out; omega
       case rel => exact ⟨(wrap64 (x6_1 + 1)), (by first | rfl | simp [*]), H', ⟨by have := HK1.out; omega⟩, by repeat (first | exact Drawn0.refl _ | apply Drawn0.step)⟩
     ·rw [if_neg c4] at H
      exact absurd H (by simp)
    ·rw [if_neg c3] at H
     exact absurd H (by simp)
   ·rw [if_neg c2] at H
    have c2b0 : decide (x6_1 < (a0.size : Int)) = false := decide_eq_false c2
    obtain rfl := Option.some.inj H
    go_wp2
    go_ret
    exact ⟨by first | rfl | simp [*], by repeat (first | exact Drawn0.refl _ | apply Drawn0.step)⟩
def spec_cronBlank.f (a0 : Int) : Option (Bool) := if a0 = 32 then (some true) else (if 9 ≤ a0 then (some (decide (a0 ≤ 13))) else (some false))
theorem spec_cronBlank.calls (a0 : Int) (r : Bool) (w : World) (h : spec_cronBlank.f a0 = some r) :
  Calls Tryz.prog 46 #[.int .u8 a0] w fun e w' => e = .returned (.bool r) ∧ Drawn0 w w' := by
 have H : (if a0 = 32 then (some true) else (if 9 ≤ a0 then (some (decide (a0 ≤ 13))) else (some false))) = some r := h
 clear h
 by_cases c2 : a0 = 32
 ·rw [if_pos c2] at H
  have c2b0 : (a0 == 32) = true := beq_iff_eq.mpr c2
  obtain rfl := Option.some.inj H
  go_enter Tryz.func46, Tryz.ntmps46
  go_wp2
  go_ret
  exact ⟨by first | rfl | simp [*], by repeat (first | exact Drawn0.refl _ | apply Drawn0.step)⟩
 ·rw [if_neg c2] at H
  have c2b0 : (a0 == 32) = false := beq_eq_false_iff_ne.mpr c2
  by_cases c3 : 9 ≤ a0
  ·rw [if_pos c3] at H
   have c3b0 : decide (9 ≤ a0) = true := decide_eq_true c3
   obtain rfl := Option.some.inj H
   go_enter Tryz.func46, Tryz.ntmps46
   go_wp2
   go_ret
   exact ⟨by first | rfl | simp [*], by repeat (first | exact Drawn0.refl _ | apply Drawn0.step)⟩
  ·rw [if_neg c3] at H
   have c3b0 : decide (9 ≤ a0) = false := decide_eq_false c3
   obtain rfl := Option.some.inj H
   go_enter Tryz.func46, Tryz.ntmps46
   go_wp2
   go_ret
   exact ⟨by first | rfl | simp [*], by repeat (first | exact Drawn0.refl _ | apply Drawn0.step)⟩
mutual
def spec_CronDescribed.j0 : Nat → ByteArray → Bool → Option (ByteArray)
 | 0, _, _ => none
 | k + 1, x3, x4 => if x4 = true then (some (⟨#[48, 32, 48, 32, 49, 32, 49, 32, 42]⟩ : ByteArray)) else (if x3.toList = ([64, 109, 111, 110, 116, 104, 108, 121] : List UInt8) then (some (⟨#[48, 32, 48, 32, 49, 32, 42, 32, 42]⟩ : ByteArray)) else (if x3.toList = ([64, 119, 101, 101, 107, 108, 121] : List UInt8) then (some (⟨#[48, 32, 48, 32, 42, 32, 42, 32, 48]⟩ : ByteArray)) else (if x3.toList = ([64, 100, 97, 105, 108, 121] : List UInt8) then (spec_CronDescribed.j1 k x3 (x3.toList == ([64, 100, 97, 105, 108, 121] : List UInt8))) else (spec_CronDescribed.j1 k x3 (x3.toList == ([64, 109, 105, 100, 110, 105, 103, 104, 116] : List UInt8))))))
def spec_CronDescribed.j1 : Nat → ByteArray → Bool → Option (ByteArray)
 | 0, _, _ => none
 | k + 1, x3, x11 => if x11 = true then (some (⟨#[48, 32, 48, 32, 42, 32, 42, 32, 42]⟩ : ByteArray)) else (if x3.toList = ([64, 104, 111, 117, 114, 108, 121] : List UInt8) then (some (⟨#[48, 32, 42, 32, 42, 32, 42, 32, 42]⟩ : ByteArray)) else (some (⟨#[]⟩ : ByteArray)))
end
def spec_CronDescribed.f (k : Nat) (a0 : ByteArray) : Option (ByteArray) := if a0.toList = ([64, 121, 101, 97, 114, 108, 121] : List UInt8) then (spec_CronDescribed.j0 k a0 (a0.toList == ([64, 121, 101, 97, 114, 108, 121] : List UInt8))) else (spec_CronDescribed.j0 k a0 (a0.toList == ([64, 97, 110, 110, 117, 97, 108, 108, 121] : List UInt8)))
theorem spec_CronDescribed.calls (k : Nat) (a0 : ByteArray) (r : ByteArray) (w : World) (h : spec_CronDescribed.f k a0 = some r) :
  Calls Tryz.prog 77 #[.string a0] w fun e w' => e = .returned (.string r) ∧ Drawn0 w w' := by
 have H : (if a0.toList = ([64, 121, 101, 97, 114, 108, 121] : List UInt8) then (spec_CronDescribed.j0 k a0 (a0.toList == ([64, 121, 101, 97, 114, 108, 121] : List UInt8))) else (spec_CronDescribed.j0 k a0 (a0.toList == ([64, 97, 110, 110, 117, 97, 108, 108, 121] : List UInt8)))) = some r := h
 clear h
 have HC2 := Aside0.mk H
 clear H
 go_enter Tryz.func77, Tryz.ntmps77
 go_upto_if 4 with (fail)
 go_cut [4] (fun v4 wc => ∃ (kq : Nat) (x4_1 : Bool), v4 = .bool x4_1 ∧ Aside0 (spec_CronDescribed.j0 kq a0 x4_1 = some r) ∧ Aside0 (kq ≤ k) ∧ Drawn0 w wc)
 case first =>
  have H := HC2.out
  clear HC2
  by_cases c3 : a0.toList = ([64, 121, 101, 97, 114, 108, 121] : List UInt8)
  ·rw [if_pos c3] at H
   have c3b0 : (a0.toList == ([64, 121, 101, 97, 114, 108, 121] : List UInt8)) = true := beq_iff_eq.mpr c3
   (first | rw [c3b0] | (simp only [i64_w, i32_w]; rw [c3b0]) | skip)
   have H' := Aside0.mk H
   clear H
   go_wp2
   go_meet
   case rel => exact ⟨_, ((a0.toList == ([64, 121, 101, 97, 114, 108, 121] : List UInt8))), (by first | rfl | simp [*]), H', ⟨by first | omega | exact Nat.le_refl _⟩, by repeat (first | exact Drawn0.refl _ | apply Drawn0.step)⟩
  ·rw [if_neg c3] at H
   have c3b0 : (a0.toList == ([64, 121, 101, 97, 114, 108, 121] : List UInt8)) = false := beq_eq_false_iff_ne.mpr c3
   (first | rw [c3b0] | (simp only [i64_w, i32_w]; rw [c3b0]) | skip)
   have H' := Aside0.mk H
   clear H
   go_wp2
   go_meet
   case rel => exact ⟨_, ((a0.toList == ([64, 97, 110, 110, 117, 97, 108, 108, 121] : List UInt8))), (by first | rfl | simp [*]), H', ⟨by first | omega | exact Nat.le_refl _⟩, by repeat (first | exact Drawn0.refl _ | apply Drawn0.step)⟩
 case rest =>
  clear HC2
  obtain ⟨kq, x4_1, rfl, HA, HJ1, ⟨mc1, rfl⟩⟩ := hcut
  cases kq with
  | zero => exact absurd HA.out (by simp [spec_CronDescribed.j0])
  | succ kj1 =>
   have H := HA.out
   clear HA
   simp only [spec_CronDescribed.j0] at H
   by_cases c4 : x4_1 = true
   ·subst c4
    have H1 : (some (⟨#[48, 32, 48, 32, 49, 32, 49, 32, 42]⟩ : ByteArray)) = some r := by rw [if_pos rfl] at H; exact H
    clear H
    have H := H1
    clear H1
    obtain rfl := Option.some.inj H
    go_wp2
    go_ret
    exact ⟨by first | rfl | simp [*], by repeat (first | exact Drawn0.refl _ | apply Drawn0.step)⟩
   ·replace c4 := Bool.eq_false_iff.mpr c4
    subst c4
    have H1 : (if a0.toList = ([64, 109, 111, 110, 116, 104, 108, 121] : List UInt8) then (some (⟨#[48, 32, 48, 32, 49, 32, 42, 32, 42]⟩ : ByteArray)) else (if a0.toList = ([64, 119, 101, 101, 107, 108, 121] : List UInt8) then (some (⟨#[48, 32, 48, 32, 42, 32, 42, 32, 48]⟩ : ByteArray)) else (if a0.toList = ([64, 100, 97, 105, 108, 121] : List UInt8) then (spec_CronDescribed.j1 kj1 a0 (a0.toList == ([64, 100, 97, 105, 108, 121] : List UInt8))) else (spec_CronDescribed.j1 kj1 a0 (a0.toList == ([64, 109, 105, 100, 110, 105, 103, 104, 116] : List UInt8)))))) = some r := by rw [if_neg (show ¬ (false = true) by decide)] at H; exact H
    clear H
    have H := H1
    clear H1
    by_cases c5 : a0.toList = ([64, 109, 111, 110, 116, 104, 108, 121] : List UInt8)
    ·rw [if_pos c5] at H
     have c5b0 : (a0.toList == ([64, 109, 111, 110, 116, 104, 108, 121] : List UInt8)) = true := beq_iff_eq.mpr c5
     obtain rfl := Option.some.inj H
     go_wp2
     go_ret
     exact ⟨by first | rfl | simp [*], by repeat (first | exact Drawn0.refl _ | apply Drawn0.step)⟩
    ·rw [if_neg c5] at H
     have c5b0 : (a0.toList == ([64, 109, 111, 110, 116, 104, 108, 121] : List UInt8)) = false := beq_eq_false_iff_ne.mpr c5
     by_cases c6 : a0.toList = ([64, 119, 101, 101, 107, 108, 121] : List UInt8)
     ·rw [if_pos c6] at H
      have c6b0 : (a0.toList == ([64, 119, 101, 101, 107, 108, 121] : List UInt8)) = true := beq_iff_eq.mpr c6
      obtain rfl := Option.some.inj H
      go_wp2
      go_ret
      exact ⟨by first | rfl | simp [*], by repeat (first | exact Drawn0.refl _ | apply Drawn0.step)⟩
     ·rw [if_neg c6] at H
      have c6b0 : (a0.toList == ([64, 119, 101, 101, 107, 108, 121] : List UInt8)) = false := beq_eq_false_iff_ne.mpr c6
      have HC7 := Aside0.mk H
      clear H
      go_upto_if 11 with (fail)
      go_cut [11] (fun v11 wc => ∃ (kq : Nat) (x11_6 : Bool), v11 = .bool x11_6 ∧ Aside0 (spec_CronDescribed.j1 kq a0 x11_6 = some r) ∧ Aside0 (kq ≤ kj1) ∧ Drawn0 w wc)
      case first =>
       have H := HC7.out
       clear HC7
       by_cases c8 : a0.toList = ([64, 100, 97, 105, 108, 121] : List UInt8)
       ·rw [if_pos c8] at H
        have c8b0 : (a0.toList == ([64, 100, 97, 105, 108, 121] : List UInt8)) = true := beq_iff_eq.mpr c8
        (first | rw [c8b0] | (simp only [i64_w, i32_w]; rw [c8b0]) | skip)
        have H' := Aside0.mk H
        clear H
        go_wp2
        go_meet
        case rel => exact ⟨_, ((a0.toList == ([64, 100, 97, 105, 108, 121] : List UInt8))), (by first | rfl | simp [*]), H', ⟨by have := HJ1.out; first | omega | exact Nat.le_refl _⟩, by repeat (first | exact Drawn0.refl _ | apply Drawn0.step)⟩
       ·rw [if_neg c8] at H
        have c8b0 : (a0.toList == ([64, 100, 97, 105, 108, 121] : List UInt8)) = false := beq_eq_false_iff_ne.mpr c8
        (first | rw [c8b0] | (simp only [i64_w, i32_w]; rw [c8b0]) | skip)
        have H' := Aside0.mk H
        clear H
        go_wp2
        go_meet
        case rel => exact ⟨_, ((a0.toList == ([64, 109, 105, 100, 110, 105, 103, 104, 116] : List UInt8))), (by first | rfl | simp [*]), H', ⟨by have := HJ1.out; first | omega | exact Nat.le_refl _⟩, by repeat (first | exact Drawn0.refl _ | apply Drawn0.step)⟩
      case rest =>
       clear HC7
       obtain ⟨kq, x11_6, rfl, HA, HJ6, ⟨mc6, rfl⟩⟩ := hcut
       cases kq with
       | zero => exact absurd HA.out (by simp [spec_CronDescribed.j1])
       | succ kj6 =>
        have H := HA.out
        clear HA
        simp only [spec_CronDescribed.j1] at H
        by_cases c9 : x11_6 = true
        ·subst c9
         have H1 : (some (⟨#[48, 32, 48, 32, 42, 32, 42, 32, 42]⟩ : ByteArray)) = some r := by rw [if_pos rfl] at H; exact H
         clear H
         have H := H1
         clear H1
         obtain rfl := Option.some.inj H
         go_wp2
         go_ret
         exact ⟨by first | rfl | simp [*], by repeat (first | exact Drawn0.refl _ | apply Drawn0.step)⟩
        ·replace c9 := Bool.eq_false_iff.mpr c9
         subst c9
         have H1 : (if a0.toList = ([64, 104, 111, 117, 114, 108, 121] : List UInt8) then (some (⟨#[48, 32, 42, 32, 42, 32, 42, 32, 42]⟩ : ByteArray)) else (some (⟨#[]⟩ : ByteArray))) = some r := by rw [if_neg (show ¬ (false = true) by decide)] at H; exact H
         clear H
         have H := H1
         clear H1
         by_cases c10 : a0.toList = ([64, 104, 111, 117, 114, 108, 121] : List UInt8)
         ·rw [if_pos c10] at H
          have c10b0 : (a0.toList == ([64, 104, 111, 117, 114, 108, 121] : List UInt8)) = true := beq_iff_eq.mpr c10
          obtain rfl := Option.some.inj H
          go_wp2
          go_ret
          exact ⟨by first | rfl | simp [*], by repeat (first | exact Drawn0.refl _ | apply Drawn0.step)⟩
         ·rw [if_neg c10] at H
          have c10b0 : (a0.toList == ([64, 104, 111, 117, 114, 108, 121] : List UInt8)) = false := beq_eq_false_iff_ne.mpr c10
          obtain rfl := Option.some.inj H
          go_wp2
          go_ret
          exact ⟨by first | rfl | simp [*], by repeat (first | exact Drawn0.refl _ | apply Drawn0.step)⟩
def spec_worse.f (a0 : Int) (a1 : Int) : Option (Int) := if a0 = 0 then (some 0) else (if a1 = 0 then (some 0) else (some (mx a0 a1)))
theorem spec_worse.calls (a0 : Int) (a1 : Int) (r : Int) (w : World) (h : spec_worse.f a0 a1 = some r) :
  Calls Tryz.prog 28 #[.int .i64 a0, .int .i64 a1] w fun e w' => e = .returned (.int .i64 r) ∧ Below w.heap.size w w' := by
 have HB := Aside0.mk (Below.refl w.heap.size w)
 have H : (if a0 = 0 then (some 0) else (if a1 = 0 then (some 0) else (some (mx a0 a1)))) = some r := h
 clear h
 by_cases c3 : a0 = 0
 ·rw [if_pos c3] at H
  have c3b0 : (a0 == 0) = true := beq_iff_eq.mpr c3
  obtain rfl := Option.some.inj H
  go_enter Tryz.func28, Tryz.ntmps28
  go_wp2
  go_ret
  exact ⟨by first | rfl | (simp [errW_none, errW_some] <;> rfl) | (simp [*, errW_none, errW_some] <;> rfl), by repeat (first | (with_reducible first | exact HB.out | apply below_alloc | apply pw_below_drewN | apply below_drew1) | exact HB.out)⟩
 ·rw [if_neg c3] at H
  have c3b0 : (a0 == 0) = false := beq_eq_false_iff_ne.mpr c3
  by_cases c4 : a1 = 0
  ·rw [if_pos c4] at H
   have c4b0 : (a1 == 0) = true := beq_iff_eq.mpr c4
   obtain rfl := Option.some.inj H
   go_enter Tryz.func28, Tryz.ntmps28
   go_wp2
   go_ret
   exact ⟨by first | rfl | (simp [errW_none, errW_some] <;> rfl) | (simp [*, errW_none, errW_some] <;> rfl), by repeat (first | (with_reducible first | exact HB.out | apply below_alloc | apply pw_below_drewN | apply below_drew1) | exact HB.out)⟩
  ·rw [if_neg c4] at H
   have c4b0 : (a1 == 0) = false := beq_eq_false_iff_ne.mpr c4
   obtain ⟨ji5, hji5⟩ : ∃ j_ : Int, (mx a0 a1) = j_ := ⟨_, rfl⟩
   replace H : (some ji5) = some r := by first | (rw [hji5] at H; exact H) | (simp only [hji5] at H ⊢; exact H)
   have hji5_ : (if a0 < a1 then a1 else a0) = ji5 := hji5
   obtain rfl := Option.some.inj H
   go_enter Tryz.func28, Tryz.ntmps28
   go_wp2
   go_ret
   exact ⟨by first | rfl | (simp [errW_none, errW_some] <;> rfl) | (simp only [← hji5]; first | rfl | (simp [errW_none, errW_some] <;> rfl)) | (simp [*, errW_none, errW_some] <;> rfl), by repeat (first | (with_reducible first | exact HB.out | apply below_alloc | apply pw_below_drewN | apply below_drew1) | exact HB.out)⟩
def spec_isDigit.f (a0 : Int) : Option (Bool) := if 48 ≤ a0 then (some (decide (a0 ≤ 57))) else (some false)
theorem spec_isDigit.calls (a0 : Int) (r : Bool) (w : World) (h : spec_isDigit.f a0 = some r) :
  Calls Tryz.prog 141 #[.int .u8 a0] w fun e w' => e = .returned (.bool r) ∧ Drawn0 w w' := by
 have H : (if 48 ≤ a0 then (some (decide (a0 ≤ 57))) else (some false)) = some r := h
 clear h
 by_cases c2 : 48 ≤ a0
 ·rw [if_pos c2] at H
  have c2b0 : decide (48 ≤ a0) = true := decide_eq_true c2
  obtain rfl := Option.some.inj H
  go_enter Tryz.func141, Tryz.ntmps141
  go_wp2
  go_ret
  exact ⟨by first | rfl | simp [*], by repeat (first | exact Drawn0.refl _ | apply Drawn0.step)⟩
 ·rw [if_neg c2] at H
  have c2b0 : decide (48 ≤ a0) = false := decide_eq_false c2
  obtain rfl := Option.some.inj H
  go_enter Tryz.func141, Tryz.ntmps141
  go_wp2
  go_ret
  exact ⟨by first | rfl | simp [*], by repeat (first | exact Drawn0.refl _ | apply Drawn0.step)⟩
attribute [local go_sem] max2_int min2_int max_two min_two max_three min_three max_four min_four
def spec_CronDelay.f (a0 : Int) : Option (Int) := if a0 < 1000000000 then (some 1000000000) else (some (wrap64 ((wrap64 (Int.tdiv a0 1000000000)) * 1000000000)))
theorem spec_CronDelay.calls (a0 : Int) (r : Int) (w : World) (h : spec_CronDelay.f a0 = some r) :
  Calls Tryz.prog 79 #[.int .i64 a0] w fun e w' => e = .returned (.int .i64 r) ∧ Drawn0 w w' := by
 have H : (if a0 < 1000000000 then (some 1000000000) else (some (wrap64 ((wrap64 (Int.tdiv a0 1000000000)) * 1000000000)))) = some r := h
 clear h
 by_cases c2 : a0 < 1000000000
 ·rw [if_pos c2] at H
  have c2b0 : decide (a0 < 1000000000) = true := decide_eq_true c2
  obtain rfl := Option.some.inj H
  go_enter Tryz.func79, Tryz.ntmps79
  go_wp2
  go_ret
  exact ⟨by first | rfl | simp [*], by repeat (first | exact Drawn0.refl _ | apply Drawn0.step)⟩
 ·rw [if_neg c2] at H
  have c2b0 : decide (a0 < 1000000000) = false := decide_eq_false c2
  obtain rfl := Option.some.inj H
  go_enter Tryz.func79, Tryz.ntmps79
  go_wp2
  go_ret
  exact ⟨by first | rfl | simp [*], by repeat (first | exact Drawn0.refl _ | apply Drawn0.step)⟩
def spec_CronMayMiss.f (a0 : Int) : Option (Int) := if (Go.bits .and .i64 a0 2) = 0 then (if (Go.bits .and .i64 a0 128) = 0 then (some (-1)) else (some 5)) else (some 0)
theorem spec_CronMayMiss.calls (a0 : Int) (r : Int) (w : World) (h : spec_CronMayMiss.f a0 = some r) :
  Calls Tryz.prog 81 #[.int .i64 a0] w fun e w' => e = .returned (.int .i64 r) ∧ Drawn0 w w' := by
 have H : (if (Go.bits .and .i64 a0 2) = 0 then (if (Go.bits .and .i64 a0 128) = 0 then (some (-1)) else (some 5)) else (some 0)) = some r := h
 clear h
 by_cases c2 : (Go.bits .and .i64 a0 2) = 0
 ·rw [if_pos c2] at H
  have c2b0 : ((Go.bits .and .i64 a0 2) == 0) = true := beq_iff_eq.mpr c2
  by_cases c3 : (Go.bits .and .i64 a0 128) = 0
  ·rw [if_pos c3] at H
   have c3b0 : ((Go.bits .and .i64 a0 128) == 0) = true := beq_iff_eq.mpr c3
   obtain rfl := Option.some.inj H
   go_enter Tryz.func81, Tryz.ntmps81
   go_wp2
   go_ret
   exact ⟨by first | rfl | simp [*], by repeat (first | exact Drawn0.refl _ | apply Drawn0.step)⟩
  ·rw [if_neg c3] at H
   have c3b0 : ((Go.bits .and .i64 a0 128) == 0) = false := beq_eq_false_iff_ne.mpr c3
   obtain rfl := Option.some.inj H
   go_enter Tryz.func81, Tryz.ntmps81
   go_wp2
   go_ret
   exact ⟨by first | rfl | simp [*], by repeat (first | exact Drawn0.refl _ | apply Drawn0.step)⟩
 ·rw [if_neg c2] at H
  have c2b0 : ((Go.bits .and .i64 a0 2) == 0) = false := beq_eq_false_iff_ne.mpr c2
  obtain rfl := Option.some.inj H
  go_enter Tryz.func81, Tryz.ntmps81
  go_wp2
  go_ret
  exact ⟨by first | rfl | simp [*], by repeat (first | exact Drawn0.refl _ | apply Drawn0.step)⟩
def spec_CronDefault.f (a0 : Int) : Option (ByteArray) := if a0 ≤ 2 then (some (⟨#[48]⟩ : ByteArray)) else (some (⟨#[42]⟩ : ByteArray))
theorem spec_CronDefault.calls (a0 : Int) (r : ByteArray) (w : World) (h : spec_CronDefault.f a0 = some r) :
  Calls Tryz.prog 82 #[.int .i64 a0] w fun e w' => e = .returned (.string r) ∧ Drawn0 w w' := by
 have H : (if a0 ≤ 2 then (some (⟨#[48]⟩ : ByteArray)) else (some (⟨#[42]⟩ : ByteArray))) = some r := h
 clear h
 by_cases c2 : a0 ≤ 2
 ·rw [if_pos c2] at H
  have c2b0 : decide (a0 ≤ 2) = true := decide_eq_true c2
  obtain rfl := Option.some.inj H
  go_enter Tryz.func82, Tryz.ntmps82
  go_wp2
  go_ret
  exact ⟨by first | rfl | simp [*], by repeat (first | exact Drawn0.refl _ | apply Drawn0.step)⟩
 ·rw [if_neg c2] at H
  have c2b0 : decide (a0 ≤ 2) = false := decide_eq_false c2
  obtain rfl := Option.some.inj H
  go_enter Tryz.func82, Tryz.ntmps82
  go_wp2
  go_ret
  exact ⟨by first | rfl | simp [*], by repeat (first | exact Drawn0.refl _ | apply Drawn0.step)⟩
def spec_CronLow.f (a0 : Int) : Option (Int) := if a0 = 3 then (some 1) else (if a0 = 4 then (some 1) else (some 0))
theorem spec_CronLow.calls (a0 : Int) (r : Int) (w : World) (h : spec_CronLow.f a0 = some r) :
  Calls Tryz.prog 114 #[.int .i64 a0] w fun e w' => e = .returned (.int .i64 r) ∧ Drawn0 w w' := by
 have H : (if a0 = 3 then (some 1) else (if a0 = 4 then (some 1) else (some 0))) = some r := h
 clear h
 by_cases c2 : a0 = 3
 ·rw [if_pos c2] at H
  have c2b0 : (a0 == 3) = true := beq_iff_eq.mpr c2
  obtain rfl := Option.some.inj H
  go_enter Tryz.func114, Tryz.ntmps114
  go_wp2
  go_ret
  exact ⟨by first | rfl | simp [*], by repeat (first | exact Drawn0.refl _ | apply Drawn0.step)⟩
 ·rw [if_neg c2] at H
  have c2b0 : (a0 == 3) = false := beq_eq_false_iff_ne.mpr c2
  by_cases c3 : a0 = 4
  ·rw [if_pos c3] at H
   have c3b0 : (a0 == 4) = true := beq_iff_eq.mpr c3
   obtain rfl := Option.some.inj H
   go_enter Tryz.func114, Tryz.ntmps114
   go_wp2
   go_ret
   exact ⟨by first | rfl | simp [*], by repeat (first | exact Drawn0.refl _ | apply Drawn0.step)⟩
  ·rw [if_neg c3] at H
   have c3b0 : (a0 == 4) = false := beq_eq_false_iff_ne.mpr c3
   obtain rfl := Option.some.inj H
   go_enter Tryz.func114, Tryz.ntmps114
   go_wp2
   go_ret
   exact ⟨by first | rfl | simp [*], by repeat (first | exact Drawn0.refl _ | apply Drawn0.step)⟩
def spec_CronHigh.f (a0 : Int) : Option (Int) := if a0 = 2 then (some 23) else (if a0 = 3 then (some 31) else (if a0 = 4 then (some 12) else (if a0 = 5 then (some 6) else (some 59))))
theorem spec_CronHigh.calls (a0 : Int) (r : Int) (w : World) (h : spec_CronHigh.f a0 = some r) :
  Calls Tryz.prog 115 #[.int .i64 a0] w fun e w' => e = .returned (.int .i64 r) ∧ Drawn0 w w' := by
 have H : (if a0 = 2 then (some 23) else (if a0 = 3 then (some 31) else (if a0 = 4 then (some 12) else (if a0 = 5 then (some 6) else (some 59))))) = some r := h
 clear h
 by_cases c2 : a0 = 2
 ·rw [if_pos c2] at H
  have c2b0 : (a0 == 2) = true := beq_iff_eq.mpr c2
  obtain rfl := Option.some.inj H
  go_enter Tryz.func115, Tryz.ntmps115
  go_wp2
  go_ret
  exact ⟨by first | rfl | simp [*], by repeat (first | exact Drawn0.refl _ | apply Drawn0.step)⟩
 ·rw [if_neg c2] at H
  have c2b0 : (a0 == 2) = false := beq_eq_false_iff_ne.mpr c2
  by_cases c3 : a0 = 3
  ·rw [if_pos c3] at H
   have c3b0 : (a0 == 3) = true := beq_iff_eq.mpr c3
   obtain rfl := Option.some.inj H
   go_enter Tryz.func115, Tryz.ntmps115
   go_wp2
   go_ret
   exact ⟨by first | rfl | simp [*], by repeat (first | exact Drawn0.refl _ | apply Drawn0.step)⟩
  ·rw [if_neg c3] at H
   have c3b0 : (a0 == 3) = false := beq_eq_false_iff_ne.mpr c3
   by_cases c4 : a0 = 4
   ·rw [if_pos c4] at H
    have c4b0 : (a0 == 4) = true := beq_iff_eq.mpr c4
    obtain rfl := Option.some.inj H
    go_enter Tryz.func115, Tryz.ntmps115
    go_wp2
    go_ret
    exact ⟨by first | rfl | simp [*], by repeat (first | exact Drawn0.refl _ | apply Drawn0.step)⟩
   ·rw [if_neg c4] at H
    have c4b0 : (a0 == 4) = false := beq_eq_false_iff_ne.mpr c4
    by_cases c5 : a0 = 5
    ·rw [if_pos c5] at H
     have c5b0 : (a0 == 5) = true := beq_iff_eq.mpr c5
     obtain rfl := Option.some.inj H
     go_enter Tryz.func115, Tryz.ntmps115
     go_wp2
     go_ret
     exact ⟨by first | rfl | simp [*], by repeat (first | exact Drawn0.refl _ | apply Drawn0.step)⟩
    ·rw [if_neg c5] at H
     have c5b0 : (a0 == 5) = false := beq_eq_false_iff_ne.mpr c5
     obtain rfl := Option.some.inj H
     go_enter Tryz.func115, Tryz.ntmps115
     go_wp2
     go_ret
     exact ⟨by first | rfl | simp [*], by repeat (first | exact Drawn0.refl _ | apply Drawn0.step)⟩
attribute [local go_sem] max2_int min2_int max_two min_two max_three min_three max_four min_four
def spec_cronUpper.f (a0 : Int) : Option (Int) := if 97 ≤ a0 then (if a0 ≤ 122 then (some ((((a0 - 97) % 256) + 65) % 256)) else (some a0)) else (some a0)
theorem spec_cronUpper.calls (a0 : Int) (r : Int) (w : World) (h : spec_cronUpper.f a0 = some r) :
  Calls Tryz.prog 166 #[.int .u8 a0] w fun e w' => e = .returned (.int .u8 r) ∧ Drawn0 w w' := by
 have H : (if 97 ≤ a0 then (if a0 ≤ 122 then (some ((((a0 - 97) % 256) + 65) % 256)) else (some a0)) else (some a0)) = some r := h
 clear h
 by_cases c2 : 97 ≤ a0
 ·rw [if_pos c2] at H
  have c2b0 : decide (97 ≤ a0) = true := decide_eq_true c2
  clear c2
  by_cases c3 : a0 ≤ 122
  ·rw [if_pos c3] at H
   have c3b0 : decide (a0 ≤ 122) = true := decide_eq_true c3
   clear c3
   obtain rfl := Option.some.inj H
   go_enter Tryz.func166, Tryz.ntmps166
   go_wp2
   go_ret
   exact ⟨by first | rfl | simp [*], by repeat (first | exact Drawn0.refl _ | apply Drawn0.step)⟩
  ·rw [if_neg c3] at H
   have c3b0 : decide (a0 ≤ 122) = false := decide_eq_false c3
   clear c3
   obtain rfl := Option.some.inj H
   go_enter Tryz.func166, Tryz.ntmps166
   go_wp2
   go_ret
   exact ⟨by first | rfl | simp [*], by repeat (first | exact Drawn0.refl _ | apply Drawn0.step)⟩
 ·rw [if_neg c2] at H
  have c2b0 : decide (97 ≤ a0) = false := decide_eq_false c2
  clear c2
  obtain rfl := Option.some.inj H
  go_enter Tryz.func166, Tryz.ntmps166
  go_wp2
  go_ret
  exact ⟨by first | rfl | simp [*], by repeat (first | exact Drawn0.refl _ | apply Drawn0.step)⟩
attribute [local go_sem] max2_int min2_int max_two min_two max_three min_three max_four min_four
attribute [local go_sem] max2_int min2_int max_two min_two max_three min_three max_four min_four
end Go.Proofs.YtcjdideliifkhaaGreatDoor.PFnCronTextAfterAnywhere
