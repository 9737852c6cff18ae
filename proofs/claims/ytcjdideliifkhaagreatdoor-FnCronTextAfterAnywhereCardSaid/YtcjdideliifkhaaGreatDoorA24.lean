import Derived.ChangeOld
import Derived.Deep.Grids
import Derived.Lib.SmallJoins
import Derived.OpenShut
import Derived.ProofKit
import Derived.ShutString
import Derived.SizedLaws
import Derived.Test.YtcjdideliifkhaaGreatDoorA23
set_option maxRecDepth 100000
set_option maxHeartbeats 16000000
namespace Go.Proofs.YtcjdideliifkhaaGreatDoor
open Go.RowKit Go.Proofs.YtcjdideliifkhaaGreatDoorW.PrintWords
set_option linter.unusedVariables false
set_option linter.unusedSimpArgs false
theorem location_empty (p : Option Addr) (c : Nat) (v1 v2 v3 : Value) (w : World) :
  Calls Tryz.prog 33 #[.agg #[.slice p 0 c, v1, v2, v3]] w fun e w' => ∃ o, e = .returned (.pointer (some ⟨o, 0, none⟩)) ∧ Org w' o (.pointer none) ∧ Below w.heap.size w w' := by
 go_enter Tryz.func33, Tryz.ntmps33
 go_wp2_with (go_at_call 39; refine (utc_c _).mono ?_; rintro e w1 ⟨rfl, h1, h2⟩)
 go_ret
 exact ⟨_, rfl, .inl ⟨by simpa using h1, rfl⟩, ((Below.refl _ _).alloc (Nat.le_refl _) _).trans (h2.mono (by simp))⟩
def ZoneOk (w : World) (za : Array Value) : Prop := ∀ w', Below w.heap.size w w' → Calls Tryz.prog 33 #[.agg za] w' fun e w'' => ∃ o lv, e = .returned (.pointer (some ⟨o, 0, none⟩)) ∧ Org w'' o lv ∧ Below w'.heap.size w' w''
theorem ZoneOk.below {w w1 : World} {za : Array Value} (h : ZoneOk w za) (hb : Below w.heap.size w w1) : ZoneOk w1 za :=
 fun w' hb' => h w' (below_step hb hb')
theorem cell_spot {w : World} {ad : Addr} {v : Value} (h : w.cell? ad = some v) : ad = ⟨ad.block, ad.off, none⟩ ∧ ad.block < w.heap.size := by
 unfold World.cell? at h
 cases ad with
 | mk b o sp =>
  cases hb : w.heap[b]? with
  | none => rw [hb] at h; cases h
  | some x =>
   have hlt : b < w.heap.size := by
    by_cases c : b < w.heap.size; exact c
    rw [Array.getElem?_eq_none (by omega)] at hb; cases hb
   rw [hb] at h
   cases x with
   | cells c e f =>
    cases sp with
    | none => exact ⟨rfl, hlt⟩
    | some s => simp at h
   | _ => simp at h
theorem add_at (b o i : Nat) : (⟨b, o, none⟩ : Addr).add i = ⟨b, o + i, none⟩ := by
 unfold Addr.add
 split
 ·rename_i h; subst h; rfl
 ·rfl
structure ZArg (w : World) (v : Value) where
 A0 : Option Addr
 A1 : Option Addr
 A2 : Option Addr
 A3 : Option Addr
 n0 : Nat
 n1 : Nat
 n2 : Nat
 n3 : Nat
 c0 : Nat
 c1 : Nat
 c2 : Nat
 c3 : Nat
 l0 : Nat → Int
 l1 : Nat → Bool
 l2 : Nat → Int
 l3 : Nat → Int
 eq : v = .agg #[.slice A0 n0 c0, .slice A1 n1 c1, .slice A2 n2 c2, .slice A3 n3 c3]
 r0 : ∀ i, i < n0 → ∃ ad, A0 = some ad ∧ w.cell? (ad.add i) = some (.int .i64 (l0 i))
 r1 : ∀ i, i < n1 → ∃ ad, A1 = some ad ∧ w.cell? (ad.add i) = some (.bool (l1 i))
 r2 : ∀ i, i < n2 → ∃ ad, A2 = some ad ∧ w.cell? (ad.add i) = some (.int .i64 (l2 i))
 r3 : ∀ i, i < n3 → ∃ ad, A3 = some ad ∧ w.cell? (ad.add i) = some (.int .i64 (l3 i))
 m0 : n0 ≤ maxLen
 m1 : n1 ≤ maxLen
 m2 : n2 ≤ maxLen
 m3 : n3 ≤ maxLen
def ZArg.Good {w : World} {v : Value} (h : ZArg w v) : Prop :=
 (h.n0 = 0 ∧ h.n1 = 0 ∧ h.n2 = 0 ∧ h.n3 = 0) ∨ (0 < h.n0 ∧ h.n0 ≤ 64 ∧ h.n1 = h.n0 ∧ 0 < h.n2 ∧ h.n2 ≤ 4096 ∧ h.n3 = h.n2 ∧ h.l2 0 = -9223372036854775808 ∧ (∀ j, j < h.n0 → -86400 ≤ h.l0 j ∧ h.l0 j ≤ 86400) ∧
  ∀ j, j < h.n3 → 0 ≤ h.l3 j ∧ h.l3 j < h.n0 ∧ (0 < j → h.l2 (j - 1) < h.l2 j))
theorem ZArg.ok {w : World} {v : Value} (h : ZArg w v) (g : h.Good) : ∃ za, v = .agg za ∧ ZoneOk w za := by
 refine ⟨_, h.eq, fun w' hb => ?_⟩
 rcases g with ⟨g0, g1, g2, g3⟩ | ⟨g0, g1, g2, g5, g3, g4, _⟩
 ·rw [g0]
  exact (location_empty _ _ _ _ _ _).mono fun e w2 ⟨o, h1, h2, h3⟩ => ⟨o, _, h1, h2, h3⟩
 ·have row : ∀ {X : Nat → Value} {n : Nat} {A : Option Addr}, 0 < n → (∀ i, i < n → ∃ ad, A = some ad ∧ w.cell? (ad.add i) = some (X i)) → ∃ b o, A = some ⟨b, o, none⟩ ∧ b < w.heap.size ∧ ∀ i, i < n → w.cell? ⟨b, o + i, none⟩ = some (X i) := fun {X n A} hn hr => by
   obtain ⟨ad, rfl, hc⟩ := hr 0 hn
   obtain ⟨e, hb⟩ := cell_spot hc
   rw [show ad.add 0 = ad from rfl] at e hb
   refine ⟨ad.block, ad.off, by rw [← e], hb, fun i hi => ?_⟩
   obtain ⟨ad', e', hc'⟩ := hr i hi
   cases e'
   rw [e, add_at] at hc'
   exact hc'
  obtain ⟨b0, o0, e0, q0, i0⟩ := row (X := fun i => .int .i64 (h.l0 i)) g0 h.r0
  obtain ⟨b1, o1, e1, q1, i1⟩ := row (X := fun i => .bool (h.l1 i)) (n := h.n0) g0 (g2 ▸ h.r1)
  obtain ⟨b2, o2, e2, q2, i2⟩ := row (X := fun i => .int .i64 (h.l2 i)) g5 h.r2
  obtain ⟨b3, o3, e3, q3, i3⟩ := row (X := fun i => .int .i64 (h.l3 i)) (n := h.n2) g5 (g4 ▸ h.r3)
  rw [e0, e1, e2, e3, g2, g4]
  exact (location_zone w' g0 (IRow.below ⟨q0, by omega, fun i hi => ⟨_, i0 i hi⟩⟩ hb) (BRow.below ⟨q1, by omega, fun i hi => ⟨_, i1 i hi⟩⟩ hb) (IRow.below ⟨q2, by omega, fun i hi => ⟨_, i2 i hi⟩⟩ hb) (IRow.below ⟨q3, by omega, fun i hi => ⟨_, i3 i hi⟩⟩ hb)).mono fun e w2 ⟨o, h1, h2, h3⟩ => ⟨o, _, h1, h2, h3⟩
theorem ZArg.fits' {w : World} {v : Value} (h : ZArg w v) : ∃ r, ∀ w', Below w.heap.size w w' → Calls Tryz.prog 5 #[v] w' fun e w'' => e = .returned (.bool r) ∧ Below w'.heap.size w' w'' := by
 obtain ⟨b0, h0⟩ : ∃ b, decide ((h.n0 : Int) > 2147483647) = b := ⟨_, rfl⟩
 obtain ⟨b1, h1⟩ : ∃ b, decide ((h.n1 : Int) > 2147483647) = b := ⟨_, rfl⟩
 obtain ⟨b2, h2⟩ : ∃ b, decide ((h.n2 : Int) > 2147483647) = b := ⟨_, rfl⟩
 obtain ⟨b3, h3⟩ : ∃ b, decide ((h.n3 : Int) > 2147483647) = b := ⟨_, rfl⟩
 refine ⟨!(b0 || b1 || b2 || b3), fun w' hb => ?_⟩
 rw [h.eq]
 have hu28 := Tryz.underlying28
 have B1 := Lib.hid (below_alloc (Below.refl w'.heap.size w') (.cells #[.slice h.A0 h.n0 h.c0, .slice h.A1 h.n1 h.c1, .slice h.A2 h.n2 h.c2, .slice h.A3 h.n3 h.c3] 28))
 cases b0 <;> cases b1 <;> cases b2 <;> cases b3
 all_goals
  go_enter Tryz.func5, Tryz.ntmps5
  go_wp2
  go_ret
  exact ⟨rfl, B1.out⟩
structure GzM (w w' : World) (b : Nat) (A0 A2 A3 : Option Addr) (n0 n2 n3 : Nat) (l0 l2 l3 : Nat → Int) (cs : Array Value) (W : World) : Prop where
 below : Below w'.heap.size w' W
 box : W.heap[b]? = some (.cells cs 28 (0, 0))
 r0 : ∀ i, i < n0 → ∃ ad, A0 = some ad ∧ W.cell? (ad.add i) = some (.int .i64 (l0 i))
 r2 : ∀ i, i < n2 → ∃ ad, A2 = some ad ∧ W.cell? (ad.add i) = some (.int .i64 (l2 i))
 r3 : ∀ i, i < n3 → ∃ ad, A3 = some ad ∧ W.cell? (ad.add i) = some (.int .i64 (l3 i))
theorem GzM.goes {w w' : World} {b : Nat} {A0 A2 A3 : Option Addr} {n0 n2 n3 : Nat} {l0 l2 l3 : Nat → Int} {cs : Array Value} {W W' : World} (h : GzM w w' b A0 A2 A3 n0 n2 n3 l0 l2 l3 cs W) (hb : Below W.heap.size W W') : GzM w w' b A0 A2 A3 n0 n2 n3 l0 l2 l3 cs W' :=
 ⟨below_step h.below hb, blk_below h.box hb, fun i hi => (h.r0 i hi).imp fun _ ⟨h1, h2⟩ => ⟨h1, pw_cell_below hb h2⟩, fun i hi => (h.r2 i hi).imp fun _ ⟨h1, h2⟩ => ⟨h1, pw_cell_below hb h2⟩, fun i hi => (h.r3 i hi).imp fun _ ⟨h1, h2⟩ => ⟨h1, pw_cell_below hb h2⟩⟩
open Classical in
theorem ZArg.good' {w : World} {v : Value} (h : ZArg w v) : ∃ r, (r = true → ∃ za, v = .agg za ∧ ZoneOk w za) ∧ ∀ w', Below w.heap.size w w' → Calls Tryz.prog 8 #[v] w' fun e w'' => e = .returned (.bool r) ∧ Below w'.heap.size w' w'' := by
 obtain ⟨r, hr⟩ : ∃ r : Bool, (r = true ↔ h.Good) := ⟨decide h.Good, by simp⟩
 refine ⟨r, fun e => h.ok (hr.1 e), fun w' hb => ?_⟩
 obtain ⟨A0, A1, A2, A3, n0, n1, n2, n3, c0, c1, c2, c3, l0, l1, l2, l3, rfl, r0, r1, r2, r3, m0, m1, m2, m3⟩ := h
 have HR := Lib.hid (show r = true ↔ ((n0 = 0 ∧ n1 = 0 ∧ n2 = 0 ∧ n3 = 0) ∨ (0 < n0 ∧ n0 ≤ 64 ∧ n1 = n0 ∧ 0 < n2 ∧ n2 ≤ 4096 ∧ n3 = n2 ∧ l2 0 = -9223372036854775808 ∧ (∀ j, j < n0 → -86400 ≤ l0 j ∧ l0 j ≤ 86400) ∧
  ∀ j, j < n3 → 0 ≤ l3 j ∧ l3 j < n0 ∧ (0 < j → l2 (j - 1) < l2 j))) from hr)
 have hu28 := Tryz.underlying28
 have HM := Lib.hid (show GzM w w' w'.heap.size A0 A2 A3 n0 n2 n3 l0 l2 l3 #[.slice A0 n0 c0, .slice A1 n1 c1, .slice A2 n2 c2, .slice A3 n3 c3] (w'.alloc (.cells #[.slice A0 n0 c0, .slice A1 n1 c1, .slice A2 n2 c2, .slice A3 n3 c3] 28)) from by
  have hb1 := below_alloc (Below.refl w'.heap.size w') (.cells #[.slice A0 n0 c0, .slice A1 n1 c1, .slice A2 n2 c2, .slice A3 n3 c3] 28)
  have st : ∀ {X : Nat → Value} {n : Nat} {A : Option Addr}, (∀ i, i < n → ∃ ad, A = some ad ∧ w.cell? (ad.add i) = some (X i)) → (∀ i, i < n → ∃ ad, A = some ad ∧ (w'.alloc (.cells #[.slice A0 n0 c0, .slice A1 n1 c1, .slice A2 n2 c2, .slice A3 n3 c3] 28)).cell? (ad.add i) = some (X i)) :=
   fun hr i hi => (hr i hi).imp fun ad ⟨h1, h2⟩ => ⟨h1, pw_cell_below hb1 (pw_cell_below hb h2)⟩
  exact ⟨hb1, blk_new _ _, st r0, st r2, st r3⟩)
 clear hr r0 r1 r2 r3 hb
 go_enter Tryz.func8, Tryz.ntmps8
 go_upto_region 1 with (fail)
 generalize w'.alloc (.cells #[.slice A0 n0 c0, .slice A1 n1 c1, .slice A2 n2 c2, .slice A3 n3 c3] 28) = W at *
 have k0 := blk_cell HM.out.box 0
 have k1 := blk_cell HM.out.box 1
 have k2 := blk_cell HM.out.box 2
 have k3 := blk_cell HM.out.box 3
 have no : ∀ {X : Prop}, (r = true → X) → ¬ X → r = false := fun h1 h2 => by
  cases r with
  | false => rfl
  | true => exact absurd (h1 rfl) h2
 by_cases e0 : n0 = 0
 ·subst e0
  obtain ⟨b1, h1⟩ : ∃ b, ((n1 : Int) == 0) = b := ⟨_, rfl⟩
  obtain ⟨b2, h2⟩ : ∃ b, ((n2 : Int) == 0) = b := ⟨_, rfl⟩
  obtain ⟨b3, h3⟩ : ∃ b, ((n3 : Int) == 0) = b := ⟨_, rfl⟩
  have hr : r = (b1 && b2 && b3) := by
   rw [Bool.eq_iff_iff, HR.out, ← h1, ← h2, ← h3]
   simp
   omega
  subst hr
  have HB := HM.out.below
  cases b1 <;> cases b2 <;> cases b3
  all_goals
   go_wp2
   go_ret
   exact ⟨rfl, HB⟩
 have f0 : ((n0 : Int) == 0) = false := by simp; omega
 obtain ⟨b1, h1⟩ : ∃ b, decide ((n0 : Int) > 64) = b := ⟨_, rfl⟩
 obtain ⟨b2, h2⟩ : ∃ b, ((n1 : Int) != (n0 : Int)) = b := ⟨_, rfl⟩
 obtain ⟨b3, h3⟩ : ∃ b, ((n2 : Int) == 0) = b := ⟨_, rfl⟩
 obtain ⟨b4, h4⟩ : ∃ b, decide ((n2 : Int) > 4096) = b := ⟨_, rfl⟩
 obtain ⟨b5, h5⟩ : ∃ b, ((n3 : Int) != (n2 : Int)) = b := ⟨_, rfl⟩
 by_cases hbad : (b1 || b2 || b3 || b4 || b5) = true
 ·have hr : r = false := no HR.out.1 fun h => by
   rcases h with h | ⟨g0, g1, g2, g3, g4, g5, -⟩
   ·exact e0 h.1
   ·rw [← h1, ← h2, ← h3, ← h4, ← h5, decide_eq_false (by omega), decide_eq_false (by omega), g5, g2] at hbad
    simp at hbad
    omega
  subst hr
  have HB := HM.out.below
  clear HR no HM
  have hfst : b1 = true ∨ (b1 = false ∧ b2 = true) ∨ (b1 = false ∧ b2 = false ∧ b3 = true) ∨ (b1 = false ∧ b2 = false ∧ b3 = false ∧ b4 = true) ∨ (b1 = false ∧ b2 = false ∧ b3 = false ∧ b4 = false ∧ b5 = true) := by
   cases b1 <;> cases b2 <;> cases b3 <;> cases b4 <;> cases b5 <;> simp_all
  rcases hfst with rfl | ⟨rfl, rfl⟩ | ⟨rfl, rfl, rfl⟩ | ⟨rfl, rfl, rfl, rfl⟩ | ⟨rfl, rfl, rfl, rfl, rfl⟩
  all_goals
   go_wp2
   go_ret
   exact ⟨rfl, HB⟩
 have hb' : b1 = false ∧ b2 = false ∧ b3 = false ∧ b4 = false ∧ b5 = false := by
  cases b1 <;> cases b2 <;> cases b3 <;> cases b4 <;> cases b5 <;> simp_all
 obtain ⟨rfl, rfl, rfl, rfl, rfl⟩ := hb'
 clear hbad
 have q1 := of_decide_eq_false h1
 have q2 : n1 = n0 := by simp at h2; omega
 have q3 : 0 < n2 := by simp at h3; omega
 have q4 := of_decide_eq_false h4
 have q5 : n3 = n2 := by simp at h5; omega
 subst q2 q5
 obtain ⟨ad2, rfl, t0⟩ := HM.out.r2 0 q3
 rw [Addr.add_zero'] at t0
 by_cases e6 : l2 0 = -9223372036854775808
 case neg =>
  have hr : r = false := no HR.out.1 fun h => by
   rcases h with h | ⟨g0, g1, g2, g3, g4, g5, g6, -⟩
   ·exact e0 h.1
   ·exact e6 g6
  subst hr
  have g6 : (l2 0 != -9223372036854775808) = true := by simpa using e6
  have HB := HM.out.below
  clear HR no HM
  go_wp2
  go_ret
  exact ⟨rfl, HB⟩
 have g6 : (l2 0 != -9223372036854775808) = false := by simpa using e6
 go_upto_region 5 with (fail)
 clear h1 h3 h4 h2 h5 t0 f0 g6 m0 m1 m2 m3
 go_wp2
 go_loop [71] (fun iv => ∃ i : Nat, iv = .int .i64 (i : Int) ∧ i ≤ n1 ∧ ∀ j, j < i → -86400 ≤ l0 j ∧ l0 j ≤ 86400) (fun iv => (n1 - (intOf iv).toNat))
 case atStart => exact ⟨0, rfl, Nat.zero_le _, fun j h => absurd h (by omega)⟩
 case round =>
  obtain ⟨i, rfl, hi, hall⟩ := hrel
  by_cases hlt : i < n1
  ·obtain ⟨ad0, rfl, t0⟩ := HM.out.r0 i hlt
   have z0 : ((i : Nat) : Int) < ((n1 : Nat) : Int) := by omega
   by_cases u : l0 i < -86400 ∨ l0 i > 86400
   ·have hr : r = false := no HR.out.1 fun h => by
     rcases h with h | ⟨g0, g1, g2, g3, g4, g5, g6, g7, -⟩
     ·exact e0 h.1
     ·have := g7 i hlt; omega
    subst hr
    have HB := HM.out.below
    by_cases u0 : l0 i < -86400
    ·go_wp2
     go_ret
     exact ⟨rfl, HB⟩
    ·have u1 : l0 i > 86400 := by omega
     go_wp2
     go_ret
     exact ⟨rfl, HB⟩
   have u0 : ¬ l0 i < -86400 := fun h => u (.inl h)
   have u1 : ¬ l0 i > 86400 := fun h => u (.inr h)
   go_wp2
   go_round
   case rel => exact ⟨i + 1, by simp, hlt, fun j hj => by
    by_cases c : j = i
    ·subst c; omega
    ·exact hall j (by omega)⟩
   case measure => simp [intOf]; omega
  ·obtain rfl : n1 = i := by omega
   have H0 := Lib.hid hall
   have hz : ¬ ((n1 : Nat) : Int) < ((n1 : Nat) : Int) := by omega
   clear hall hi hlt
   go_wp2
   go_loopw [85] (fun iv wr => ∃ i : Nat, iv = .int .i64 (i : Int) ∧ i ≤ n3 ∧ (∀ j, j < i → 0 ≤ l3 j ∧ l3 j < n1 ∧ (0 < j → l2 (j - 1) < l2 j)) ∧ GzM w w' w'.heap.size A0 (some ad2) A3 n1 n3 n3 l0 l2 l3 #[.slice A0 n1 c0, .slice A1 n1 c1, .slice (some ad2) n3 c2, .slice A3 n3 c3] wr) (fun iv _ => (n3 - (intOf iv).toNat))
   case atStart => exact ⟨0, rfl, Nat.zero_le _, fun j h => absurd h (by omega), HM.out⟩
   case round =>
    obtain ⟨i, rfl, hi, hall, hM⟩ := hrel
    clear HM k0 k1 k2 k3
    have HM := Lib.hid hM
    have HB := hM.below
    have k0 := blk_cell hM.box 0
    have k2 := blk_cell hM.box 2
    by_cases hlt : i < n3
    ·obtain ⟨ad3, rfl, t3⟩ := hM.r3 i hlt
     have z0 : ((i : Nat) : Int) < ((n3 : Nat) : Int) := by omega
     have bad : ¬ (0 ≤ l3 i ∧ l3 i < n1 ∧ (0 < i → l2 (i - 1) < l2 i)) → r = false := fun hb => no HR.out.1 fun h => by
      rcases h with h | ⟨g0, g1, g2, g3, g4, g5, g6, g7, g8⟩
      ·exact e0 h.1
      ·exact hb (g8 i hlt)
     clear hM
     by_cases u0 : l3 i < 0
     ·have hr := bad (by omega)
      subst hr
      go_upto_region 14 with (fail)
      refine wp_region_det (F := ?F1) (by kernel_rfl) 118 rfl 27 [(90, .int .i64 (l3 i)), (91, .bool true), (92, .bool true), (93, undef), (94, undef), (95, undef), (96, undef), (97, undef), (98, .bool true), (99, .bool true), (100, undef), (101, undef), (102, undef), (103, undef), (104, undef), (105, undef), (106, undef), (107, undef), (108, undef), (109, undef), (110, undef), (111, undef), (112, undef), (113, undef), (114, undef), (115, undef), (116, .bool true)] ?hF1 (by kernel_rfl) (GzM w w' w'.heap.size A0 (some ad2) (some ad3) n1 n3 n3 l0 l2 l3 #[.slice A0 n1 c0, .slice A1 n1 c1, .slice (some ad2) n3 c2, .slice (some ad3) n3 c3]) (fun _ _ h hb => h.goes hb) (HM.out.goes (Below.refl _ _).drew) ?_ ?_
      case hF1 =>
       simp only [List.foldl_cons, List.foldl_nil, List.setIfInBounds_toArray, List.set_cons_zero, List.set_cons_succ]
       rfl
      ·and_intros
       all_goals first | exact trivial | intro _ w3 h3
       all_goals unfold Region.DetStep
       all_goals first | change Oper.wp _ _ _ _ _ _ | (simp [Region.dstOf]; done) | (simp [Region.dstOf]; exact trivial) | (simp [Region.dstOf])
       all_goals
        have hb := Below.refl w3.heap.size w3
        have y0 := blk_cell h3.box 0
        have y2 := blk_cell h3.box 2
        go_simp
      intro w3 h3
      show Exit.then _ _ .normal _ w3
      have HB3 := h3.below
      have HM3 := Lib.hid h3
      clear h3
      go_wp2
      go_ret
      exact ⟨rfl, HB3⟩
     by_cases u1 : l3 i ≥ (n1 : Int)
     ·have hr := bad (by omega)
      subst hr
      go_upto_region 14 with (fail)
      refine wp_region_det (F := ?F2) (by kernel_rfl) 118 rfl 27 [(90, .int .i64 (l3 i)), (91, .bool false), (92, .bool false), (93, .int .i64 (l3 i)), (94, .pointer (some ⟨w'.heap.size, 0, none⟩)), (95, .slice A0 n1 c0), (96, .int .i64 (n1 : Int)), (97, .bool true), (98, .bool true), (99, .bool true), (100, undef), (101, undef), (102, undef), (103, undef), (104, undef), (105, undef), (106, undef), (107, undef), (108, undef), (109, undef), (110, undef), (111, undef), (112, undef), (113, undef), (114, undef), (115, undef), (116, .bool true)] ?hF2 (by kernel_rfl) (GzM w w' w'.heap.size A0 (some ad2) (some ad3) n1 n3 n3 l0 l2 l3 #[.slice A0 n1 c0, .slice A1 n1 c1, .slice (some ad2) n3 c2, .slice (some ad3) n3 c3]) (fun _ _ h hb => h.goes hb) (HM.out.goes (Below.refl _ _).drew) ?_ ?_
      case hF2 =>
       simp only [List.foldl_cons, List.foldl_nil, List.setIfInBounds_toArray, List.set_cons_zero, List.set_cons_succ]
       rfl
      ·and_intros
       all_goals first | exact trivial | intro _ w3 h3
       all_goals unfold Region.DetStep
       all_goals first | change Oper.wp _ _ _ _ _ _ | (simp [Region.dstOf]; done) | (simp [Region.dstOf]; exact trivial) | (simp [Region.dstOf])
       all_goals
        have hb := Below.refl w3.heap.size w3
        have y0 := blk_cell h3.box 0
        have y2 := blk_cell h3.box 2
        go_simp
      intro w3 h3
      show Exit.then _ _ .normal _ w3
      have HB3 := h3.below
      have HM3 := Lib.hid h3
      clear h3
      go_wp2
      go_ret
      exact ⟨rfl, HB3⟩
     cases i with
     | zero =>
      have z00 : (0 : Int) < ((n3 : Nat) : Int) := by omega
      rw [Addr.add_zero'] at t3
      go_upto_region 14 with (fail)
      refine wp_region_det (F := ?F3) (by kernel_rfl) 118 rfl 27 [(90, .int .i64 (l3 0)), (91, .bool false), (92, .bool false), (93, .int .i64 (l3 0)), (94, .pointer (some ⟨w'.heap.size, 0, none⟩)), (95, .slice A0 n1 c0), (96, .int .i64 (n1 : Int)), (97, .bool false), (98, .bool false), (99, .bool false), (100, .int .i64 0), (101, .bool false), (102, .bool false), (103, undef), (104, undef), (105, undef), (106, undef), (107, undef), (108, undef), (109, undef), (110, undef), (111, undef), (112, undef), (113, undef), (114, undef), (115, .bool false), (116, .bool false)] ?hF3 (by kernel_rfl) (GzM w w' w'.heap.size A0 (some ad2) (some ad3) n1 n3 n3 l0 l2 l3 #[.slice A0 n1 c0, .slice A1 n1 c1, .slice (some ad2) n3 c2, .slice (some ad3) n3 c3]) (fun _ _ h hb => h.goes hb) (HM.out.goes (Below.refl _ _).drew) ?_ ?_
      case hF3 =>
       simp only [List.foldl_cons, List.foldl_nil, List.setIfInBounds_toArray, List.set_cons_zero, List.set_cons_succ]
       rfl
      ·and_intros
       all_goals first | exact trivial | intro _ w3 h3
       all_goals unfold Region.DetStep
       all_goals first | change Oper.wp _ _ _ _ _ _ | (simp [Region.dstOf]; done) | (simp [Region.dstOf]; exact trivial) | (simp [Region.dstOf])
       all_goals
        have hb := Below.refl w3.heap.size w3
        have y0 := blk_cell h3.box 0
        have y2 := blk_cell h3.box 2
        go_simp
      intro w3 h3
      show Exit.then _ _ .normal _ w3
      have HB3 := h3.below
      have HM3 := Lib.hid h3
      clear h3
      go_wp2
      go_roundw
      case rel => exact ⟨1, rfl, hlt, fun j hj => by
       obtain rfl : j = 0 := by omega
       exact ⟨by omega, by omega, fun h => absurd h (by decide)⟩, HM3.out⟩
      case measure => simp [intOf]; omega
     | succ i =>
      replace t3 : wr.cell? ⟨ad3.block, ad3.off + (i + 1), none⟩ = some (.int .i64 (l3 (i + 1))) := t3
      have z1 : ((i : Nat) : Int) < ((n3 : Nat) : Int) := by omega
      have z2 : ((i : Nat) : Int) + 1 < ((n3 : Nat) : Int) := by omega
      have z4 : (0 : Int) ≤ (i : Int) + 1 := by omega
      by_cases u2 : l2 i ≥ l2 (i + 1)
      ·have hr := bad (fun h => by have := h.2.2 (by omega); rw [Nat.add_sub_cancel] at this; omega)
       subst hr
       go_upto_region 14 with (fail)
       have rr : ∀ w3, GzM w w' w'.heap.size A0 (some ad2) (some ad3) n1 n3 n3 l0 l2 l3 #[.slice A0 n1 c0, .slice A1 n1 c1, .slice (some ad2) n3 c2, .slice (some ad3) n3 c3] w3 → w3.cell? ⟨ad2.block, ad2.off + (i + 1), none⟩ = some (.int .i64 (l2 (i + 1))) ∧ w3.cell? (ad2.add i) = some (.int .i64 (l2 i)) := fun w3 h3 => by
        obtain ⟨_, e, t2⟩ := h3.r2 (i + 1) hlt
        cases e
        obtain ⟨_, e, t1⟩ := h3.r2 i (by omega)
        cases e
        exact ⟨t2, t1⟩
       refine wp_region_det (F := ?F4) (by kernel_rfl) 118 rfl 27 [(90, .int .i64 (l3 (i + 1))), (91, .bool false), (92, .bool false), (93, .int .i64 (l3 (i + 1))), (94, .pointer (some ⟨w'.heap.size, 0, none⟩)), (95, .slice A0 n1 c0), (96, .int .i64 (n1 : Int)), (97, .bool false), (98, .bool false), (99, .bool false), (100, .int .i64 ((i + 1 : Nat) : Int)), (101, .bool true), (102, .bool true), (103, .pointer (some ⟨w'.heap.size, 2, none⟩)), (104, .slice (some ad2) n3 c2), (105, .int .i64 ((i + 1 : Nat) : Int)), (106, .int .i64 (i : Int)), (107, .pointer (some (ad2.add i))), (108, .int .i64 (l2 i)), (109, .pointer (some ⟨w'.heap.size, 2, none⟩)), (110, .slice (some ad2) n3 c2), (111, .int .i64 ((i + 1 : Nat) : Int)), (112, .pointer (some (ad2.add (i + 1)))), (113, .int .i64 (l2 (i + 1))), (114, .bool true), (115, .bool true), (116, .bool true)] ?hF4 (by kernel_rfl) (GzM w w' w'.heap.size A0 (some ad2) (some ad3) n1 n3 n3 l0 l2 l3 #[.slice A0 n1 c0, .slice A1 n1 c1, .slice (some ad2) n3 c2, .slice (some ad3) n3 c3]) (fun _ _ h hb => h.goes hb) (HM.out.goes (Below.refl _ _).drew) ?_ ?_
       case hF4 =>
        simp only [List.foldl_cons, List.foldl_nil, List.setIfInBounds_toArray, List.set_cons_zero, List.set_cons_succ]
        rfl
       ·and_intros
        all_goals first | exact trivial | intro _ w3 h3
        all_goals unfold Region.DetStep
        all_goals first | change Oper.wp _ _ _ _ _ _ | (simp [Region.dstOf]; done) | (simp [Region.dstOf]; exact trivial) | (simp [Region.dstOf])
        all_goals
         have hb := Below.refl w3.heap.size w3
         have y0 := blk_cell h3.box 0
         have y2 := blk_cell h3.box 2
         obtain ⟨v1, v2⟩ := rr w3 h3
         have hwi : IntKind.i64.wrap (i : Int) = i := by simp only [IntKind.wrap, IntKind.bits, IntKind.signed]; simp; omega
         go_simp
       intro w3 h3
       show Exit.then _ _ .normal _ w3
       have HB3 := h3.below
       have HM3 := Lib.hid h3
       clear h3
       go_wp2
       go_ret
       exact ⟨rfl, HB3⟩
      ·go_upto_region 14 with (fail)
       have rr : ∀ w3, GzM w w' w'.heap.size A0 (some ad2) (some ad3) n1 n3 n3 l0 l2 l3 #[.slice A0 n1 c0, .slice A1 n1 c1, .slice (some ad2) n3 c2, .slice (some ad3) n3 c3] w3 → w3.cell? ⟨ad2.block, ad2.off + (i + 1), none⟩ = some (.int .i64 (l2 (i + 1))) ∧ w3.cell? (ad2.add i) = some (.int .i64 (l2 i)) := fun w3 h3 => by
        obtain ⟨_, e, t2⟩ := h3.r2 (i + 1) hlt
        cases e
        obtain ⟨_, e, t1⟩ := h3.r2 i (by omega)
        cases e
        exact ⟨t2, t1⟩
       refine wp_region_det (F := ?F5) (by kernel_rfl) 118 rfl 27 [(90, .int .i64 (l3 (i + 1))), (91, .bool false), (92, .bool false), (93, .int .i64 (l3 (i + 1))), (94, .pointer (some ⟨w'.heap.size, 0, none⟩)), (95, .slice A0 n1 c0), (96, .int .i64 (n1 : Int)), (97, .bool false), (98, .bool false), (99, .bool false), (100, .int .i64 ((i + 1 : Nat) : Int)), (101, .bool true), (102, .bool true), (103, .pointer (some ⟨w'.heap.size, 2, none⟩)), (104, .slice (some ad2) n3 c2), (105, .int .i64 ((i + 1 : Nat) : Int)), (106, .int .i64 (i : Int)), (107, .pointer (some (ad2.add i))), (108, .int .i64 (l2 i)), (109, .pointer (some ⟨w'.heap.size, 2, none⟩)), (110, .slice (some ad2) n3 c2), (111, .int .i64 ((i + 1 : Nat) : Int)), (112, .pointer (some (ad2.add (i + 1)))), (113, .int .i64 (l2 (i + 1))), (114, .bool false), (115, .bool false), (116, .bool false)] ?hF5 (by kernel_rfl) (GzM w w' w'.heap.size A0 (some ad2) (some ad3) n1 n3 n3 l0 l2 l3 #[.slice A0 n1 c0, .slice A1 n1 c1, .slice (some ad2) n3 c2, .slice (some ad3) n3 c3]) (fun _ _ h hb => h.goes hb) (HM.out.goes (Below.refl _ _).drew) ?_ ?_
       case hF5 =>
        simp only [List.foldl_cons, List.foldl_nil, List.setIfInBounds_toArray, List.set_cons_zero, List.set_cons_succ]
        rfl
       ·and_intros
        all_goals first | exact trivial | intro _ w3 h3
        all_goals unfold Region.DetStep
        all_goals first | change Oper.wp _ _ _ _ _ _ | (simp [Region.dstOf]; done) | (simp [Region.dstOf]; exact trivial) | (simp [Region.dstOf])
        all_goals
         have hb := Below.refl w3.heap.size w3
         have y0 := blk_cell h3.box 0
         have y2 := blk_cell h3.box 2
         obtain ⟨v1, v2⟩ := rr w3 h3
         have hwi : IntKind.i64.wrap (i : Int) = i := by simp only [IntKind.wrap, IntKind.bits, IntKind.signed]; simp; omega
         go_simp
       intro w3 h3
       show Exit.then _ _ .normal _ w3
       have HB3 := h3.below
       have HM3 := Lib.hid h3
       clear h3
       go_wp2
       go_roundw
       case rel => exact ⟨i + 1 + 1, by simp, hlt, fun j hj => by
        by_cases c : j = i + 1
        ·subst c; exact ⟨by omega, by omega, fun _ => by rw [Nat.add_sub_cancel]; omega⟩
        ·exact hall j (by omega), HM3.out⟩
       case measure => simp [intOf]; omega
    ·obtain rfl : n3 = i := by omega
     have hr : r = true := HR.out.2 (.inr (by refine ⟨by omega, by omega, ?_, q3, by omega, ?_, e6, H0.out, hall⟩ <;> first | rfl | trivial))
     subst hr
     clear HR no
     go_wp2
     go_ret
     exact ⟨rfl, HB⟩
open Go.ChangeShapes Go.WideShapes Go.ChangeAt Go.RowKit Go.Proofs.YtcjdideliifkhaaGreatDoorW.PrintWords
theorem ints_read {H : Type} {enc : TypeId × Value → H} {W : World} {t e fuel : Nat} {v : Value} {y : DataW H × List MemPlace} (ht : Tryz.prog.underlying t = some (.slice e)) (he : Tryz.prog.underlying e = some (.int .i64)) (hc : Tryz.prog.cellsOf e = 1)
  (h : DataW.trod enc Tryz.prog W 0 (fun _ => true) true fuel t [v] = some y) : ∃ (A : Option Addr) (n c : Nat) (l : Nat → Int), v = .slice A n c ∧ (∀ i, i < n → ∃ ad, A = some ad ∧ W.cell? (ad.add i) = some (.int .i64 (l i))) ∧ n ≤ maxLen := by
 rcases open_ints ht he hc h with ⟨h1, _⟩ | ⟨a, len, cap, zs, h1, _, h2, h3, h4, _, h5, _⟩
 ·simp at h1
  exact ⟨none, 0, 0, fun _ => 0, h1, fun i hi => absurd hi (by omega), Nat.zero_le _⟩
 ·simp at h1
  simp only [if_true] at h4
  exact ⟨some a, len, cap, fun i => zs.getD i 0, h1, fun i hi => ⟨a, rfl, h5 i (by omega)⟩, by omega⟩
theorem bools_read {H : Type} {enc : TypeId × Value → H} {W : World} {t e fuel : Nat} {v : Value} {y : DataW H × List MemPlace} (ht : Tryz.prog.underlying t = some (.slice e)) (he : Tryz.prog.underlying e = some .bool) (hc : Tryz.prog.cellsOf e = 1)
  (h : DataW.trod enc Tryz.prog W 0 (fun _ => true) true fuel t [v] = some y) : ∃ (A : Option Addr) (n c : Nat) (l : Nat → Bool), v = .slice A n c ∧ (∀ i, i < n → ∃ ad, A = some ad ∧ W.cell? (ad.add i) = some (.bool (l i))) ∧ n ≤ maxLen := by
 rcases Go.Deep.open_bools ht he hc h with ⟨h1, _⟩ | ⟨a, len, cap, B, h1, _, h2, h3, _, h5⟩
 ·simp at h1
  exact ⟨none, 0, 0, fun _ => false, h1, fun i hi => absurd hi (by omega), Nat.zero_le _⟩
 ·simp at h1
  exact ⟨some a, len, cap, B, h1, fun i hi => ⟨a, rfl, h5 i (by omega)⟩, by omega⟩
theorem zarg_of {H : Type} {enc : TypeId × Value → H} {W : World} {r : Reach} {b0 : Nat} {v : Value} {d : DataW H} {p : List MemPlace} (hv : Value.okWide Tryz.prog W r b0 28 v) (h : DataW.Trod enc Tryz.prog W 0 (fun _ => true) true 28 v d p) : Nonempty (ZArg W v) := by
 obtain ⟨v0, v1, v2, v3, y0, y1, y2, y3, m, rfl, _, _, h0, h1, h2, h3⟩ := Go.Joins.open_agg4 Tryz.underlying28 (by kernel_rfl) (by kernel_rfl) hv h
 obtain ⟨A0, n0, c0, l0, rfl, r0, k0⟩ := ints_read (e := 3) (by kernel_rfl) (by kernel_rfl) (by kernel_rfl) h0
 obtain ⟨A1, n1, c1, l1, rfl, r1, k1⟩ := bools_read (e := 4) (by kernel_rfl) (by kernel_rfl) (by kernel_rfl) h1
 obtain ⟨A2, n2, c2, l2, rfl, r2, k2⟩ := ints_read (e := 2) (by kernel_rfl) (by kernel_rfl) (by kernel_rfl) h2
 obtain ⟨A3, n3, c3, l3, rfl, r3, k3⟩ := ints_read (e := 3) (by kernel_rfl) (by kernel_rfl) (by kernel_rfl) h3
 exact ⟨⟨A0, A1, A2, A3, n0, n1, n2, n3, c0, c1, c2, c3, l0, l1, l2, l3, rfl, r0, r1, r2, r3, k0, k1, k2, k3⟩⟩
end Go.Proofs.YtcjdideliifkhaaGreatDoor
