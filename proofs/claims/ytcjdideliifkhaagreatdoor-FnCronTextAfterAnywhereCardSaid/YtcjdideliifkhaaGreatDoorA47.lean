/- FnCronTextAfterAnywhere, as the given card states it: a cron text that names UTC, asked for its next activation after an instant, answers the same whatever two zones it is asked in; so does a constant delay.
   Conditions: those of the given statement and no others (any options, text, instant and zones that the row lets in, any world and any order of evaluation that it lets in). The texts A01 to A46 hold the walks of the program's and the spec's functions, this one the walk of the law and the card. -/
import Derived.LaidMore
import Derived.LaidOnce
import Derived.Lay
import Derived.SevenTiedAt
import Derived.Stop.Joined
import Derived.Test.YtcjdideliifkhaaGreatDoorCards
import Derived.Test.YtcjdideliifkhaaGreatDoorTie
import Derived.Test.YtcjdideliifkhaaGreatDoorA46
set_option maxRecDepth 100000
set_option maxHeartbeats 16000000
namespace Go.Proofs.YtcjdideliifkhaaGreatDoor
open Go.RowKit Go.Maps Go.Proofs.YtcjdideliifkhaaGreatDoorW.PrintWords Go.Proofs.YtcjdideliifkhaaGreatDoorW.PrintLast Go.Proofs.YtcjdideliifkhaaGreatDoorW.PrintMore PFnCronTextAfterAnywhere
set_option linter.unusedVariables false
set_option linter.unusedSimpArgs false
def headL : Nat → Txt
 | 0 => [84, 90, 61, 85, 84, 67, 32]
 | 1 => [67, 82, 79, 78, 95, 84, 90, 61, 85, 84, 67, 32]
 | 2 => [84, 90, 61, 32]
 | _ => [67, 82, 79, 78, 95, 84, 90, 61, 32]
theorem name_unique {a b x y : Txt} (ha : ∀ c ∈ a, c.toNat ≠ 32) (hb : ∀ c ∈ b, c.toNat ≠ 32) (h : a ++ 32 :: x = b ++ 32 :: y) : a = b := by
 induction a generalizing b with
 | nil =>
  cases b with
  | nil => rfl
  | cons c b =>
   simp only [List.nil_append, List.cons_append, List.cons.injEq] at h
   exact absurd (by rw [← h.1]; rfl) (hb c List.mem_cons_self)
 | cons c a ih =>
  cases b with
  | nil =>
   simp only [List.nil_append, List.cons_append, List.cons.injEq] at h
   exact absurd (by rw [h.1]; rfl) (ha c List.mem_cons_self)
  | cons d b =>
   simp only [List.cons_append, List.cons.injEq] at h
   rw [h.1, ih (fun e he => ha e (List.mem_cons_of_mem _ he)) (fun e he => hb e (List.mem_cons_of_mem _ he)) h.2]
theorem zone_utc {name : Txt} {u : Bool} (h : ZoneR name u) (hn : name = [] ∨ name = [85, 84, 67]) : u = true := by
 rcases h with ⟨_, h⟩ | ⟨h, _⟩
 ·exact h
 ·rcases hn with rfl | rfl <;> cases h
theorem head_utc {o : Int} {k : Nat} (hk : k < 4) {l : Txt} {m : CMean} (h : ParseR o (headL k ++ l) m) : m.every = false → m.utc = true := by
 obtain ⟨n, name, hz, hd, hn1, hn⟩ : ∃ (n : Nat) (name : Txt), zh (headL k ++ l) = n + 1 ∧ (headL k ++ l).drop (n + 1) = name ++ 32 :: l ∧ (∀ c ∈ name, c.toNat ≠ 32) ∧ (name = [] ∨ name = [85, 84, 67]) := by
  rcases (show k = 0 ∨ k = 1 ∨ k = 2 ∨ k = 3 by omega) with rfl | rfl | rfl | rfl
  ·exact ⟨2, [85, 84, 67], by unfold zh begins headL tzL ctzL; simp, rfl, by decide, .inr rfl⟩
  ·exact ⟨7, [85, 84, 67], by unfold zh begins headL tzL ctzL; simp, rfl, by decide, .inr rfl⟩
  ·exact ⟨2, [], by unfold zh begins headL tzL ctzL; simp, rfl, by decide, .inl rfl⟩
  ·exact ⟨7, [], by unfold zh begins headL tzL ctzL; simp, rfl, by decide, .inl rfl⟩
 rcases h with ⟨h, _⟩ | ⟨_, name', tail, u, m0, h1, h2, h3, _, _, rfl⟩
 ·rw [hz] at h; cases h
 ·rw [hz, hd] at h1
  have e := name_unique hn1 h2 h1
  rw [zone_utc h3 (e ▸ hn)]
  intro h
  have h' : m0.every = false := h
  show (true && !m0.every) = true
  rw [h']; rfl
theorem heads_i0 : ∀ w, (Instr.index 69 (.agg #[.string ⟨#[84, 90, 61, 85, 84, 67, 32]⟩, .string ⟨#[67, 82, 79, 78, 95, 84, 90, 61, 85, 84, 67, 32]⟩, .string ⟨#[84, 90, 61, 32]⟩, .string ⟨#[67, 82, 79, 78, 95, 84, 90, 61, 32]⟩, .string ⟨#[84, 90, 61, 76, 111, 99, 97, 108, 32]⟩, .string ⟨#[67, 82, 79, 78, 95, 84, 90, 61, 76, 111, 99, 97, 108, 32]⟩]) (.int .i64 0)).run Tryz.prog w = .ok (.string (ofL (headL 0))) w := fun _ => by kernel_rfl
theorem heads_i1 : ∀ w, (Instr.index 69 (.agg #[.string ⟨#[84, 90, 61, 85, 84, 67, 32]⟩, .string ⟨#[67, 82, 79, 78, 95, 84, 90, 61, 85, 84, 67, 32]⟩, .string ⟨#[84, 90, 61, 32]⟩, .string ⟨#[67, 82, 79, 78, 95, 84, 90, 61, 32]⟩, .string ⟨#[84, 90, 61, 76, 111, 99, 97, 108, 32]⟩, .string ⟨#[67, 82, 79, 78, 95, 84, 90, 61, 76, 111, 99, 97, 108, 32]⟩]) (.int .i64 1)).run Tryz.prog w = .ok (.string (ofL (headL 1))) w := fun _ => by kernel_rfl
theorem heads_i2 : ∀ w, (Instr.index 69 (.agg #[.string ⟨#[84, 90, 61, 85, 84, 67, 32]⟩, .string ⟨#[67, 82, 79, 78, 95, 84, 90, 61, 85, 84, 67, 32]⟩, .string ⟨#[84, 90, 61, 32]⟩, .string ⟨#[67, 82, 79, 78, 95, 84, 90, 61, 32]⟩, .string ⟨#[84, 90, 61, 76, 111, 99, 97, 108, 32]⟩, .string ⟨#[67, 82, 79, 78, 95, 84, 90, 61, 76, 111, 99, 97, 108, 32]⟩]) (.int .i64 2)).run Tryz.prog w = .ok (.string (ofL (headL 2))) w := fun _ => by kernel_rfl
theorem heads_i3 : ∀ w, (Instr.index 69 (.agg #[.string ⟨#[84, 90, 61, 85, 84, 67, 32]⟩, .string ⟨#[67, 82, 79, 78, 95, 84, 90, 61, 85, 84, 67, 32]⟩, .string ⟨#[84, 90, 61, 32]⟩, .string ⟨#[67, 82, 79, 78, 95, 84, 90, 61, 32]⟩, .string ⟨#[84, 90, 61, 76, 111, 99, 97, 108, 32]⟩, .string ⟨#[67, 82, 79, 78, 95, 84, 90, 61, 76, 111, 99, 97, 108, 32]⟩]) (.int .i64 3)).run Tryz.prog w = .ok (.string (ofL (headL 3))) w := fun _ => by kernel_rfl
theorem heads_c (k : Nat) (hk : k < 4) (w : World) :
  Calls Tryz.prog 9 #[.int .i64 (k : Int)] w fun e w' => e = .returned (.tuple #[.string (ofL (headL k)), .bool true]) ∧ Below w.heap.size w w' := by
 have i0 := heads_i0
 have i1 := heads_i1
 have i2 := heads_i2
 have i3 := heads_i3
 rcases (show k = 0 ∨ k = 1 ∨ k = 2 ∨ k = 3 by omega) with rfl | rfl | rfl | rfl
 all_goals
  clear hk
  go_enter Tryz.func9, Tryz.ntmps9
  go_wp2
  go_ret2
  exact ⟨rfl, Below.refl _ _⟩
theorem cronUTC_c (w : World) :
  Calls Tryz.prog 13 #[] w fun e w' => e = .returned zUTC ∧ Below w.heap.size w w' := by
 go_enter Tryz.func13, Tryz.ntmps13
 go_wp2
 refine bodyPost_ret (results_cell_row rfl _ _ w.heap.size 28 #[.slice none 0 0, .slice none 0 0, .slice none 0 0, .slice none 0 0] (0, 0) _ rfl (blk_new w _) Tryz.underlying28 rfl (by kernel_rfl)) rfl ?_
 exact ⟨rfl, below_alloc (Below.refl _ _) _⟩
theorem options_f (o : Int) : ∃ r, spec_CronOptions.f o = some r ∧ (r = true → 0 ≤ o ∧ o < 512 ∧ spec_CronTwoOptional.f o = some false) := by
 unfold spec_CronOptions.f
 by_cases c0 : 0 ≤ o
 ·by_cases c1 : o < 512
  ·rw [if_pos c0, if_pos c1]
   have : ∃ b, spec_CronTwoOptional.f o = some b := by
    unfold spec_CronTwoOptional.f; split <;> exact ⟨_, rfl⟩
   obtain ⟨b, hb⟩ := this
   rw [hb]
   refine ⟨!b, rfl, fun e => ⟨c0, c1, ?_⟩⟩
   cases b with
   | false => rfl
   | true => cases e
  ·rw [if_pos c0, if_neg c1]; exact ⟨false, rfl, fun e => by cases e⟩
 ·rw [if_neg c0]; exact ⟨false, rfl, fun e => by cases e⟩
theorem good_c (s ns : Int) : ∃ r : Bool, (r = true → -62135596800 ≤ s ∧ s ≤ 253402300799 ∧ 0 ≤ ns ∧ ns < 1000000000) ∧ ∀ w, Calls Tryz.prog 7 #[.agg #[.int .i64 s, .int .i64 ns]] w fun e w' => e = .returned (.bool r) ∧ Below w.heap.size w w' := by
 obtain ⟨b1, h1⟩ : ∃ b, decide (-62135596800 ≤ s) = b := ⟨_, rfl⟩
 obtain ⟨b2, h2⟩ : ∃ b, decide (s ≤ 253402300799) = b := ⟨_, rfl⟩
 obtain ⟨b3, h3⟩ : ∃ b, decide (0 ≤ ns) = b := ⟨_, rfl⟩
 obtain ⟨b4, h4⟩ : ∃ b, decide (ns < 1000000000) = b := ⟨_, rfl⟩
 refine ⟨b1 && b2 && b3 && b4, fun e => ?_, fun w => ?_⟩
 ·rw [← h1, ← h2, ← h3, ← h4] at e; simp at e; omega
 have hu23 := Tryz.underlying23
 have HB := Lib.hid (below_alloc (Below.refl w.heap.size w) (.cells #[.int .i64 s, .int .i64 ns] 23))
 cases b1 <;> cases b2 <;> cases b3 <;> cases b4
 all_goals
  go_enter Tryz.func7, Tryz.ntmps7
  go_wp2
  go_ret
  exact ⟨rfl, HB.out⟩
theorem before_c (s ns x : Int) (h : s < x) (w : World) : Calls Tryz.prog 14 #[.agg #[.int .i64 s, .int .i64 ns], .agg #[.int .i64 x, .int .i64 0]] w fun e w' => e = .returned (.bool true) ∧ Below w.heap.size w w' := by
 have hu23 := Tryz.underlying23
 have HB := Lib.hid (below_alloc (below_alloc (Below.refl w.heap.size w) (.cells #[.int .i64 s, .int .i64 ns] 23)) (.cells #[.int .i64 x, .int .i64 0] 23))
 go_enter Tryz.func14, Tryz.ntmps14
 go_wp2
 go_ret
 exact ⟨rfl, HB.out⟩
structure LwM (w : World) (s ns : Int) (y0 y1 y2 y3 z0 z1 z2 z3 : Value) (W : World) : Prop where
 below : Below w.heap.size w W
 inst : W.heap[w.heap.size]? = some (.cells #[.int .i64 s, .int .i64 ns] 23 (0, 0))
 yb : W.heap[w.heap.size + 1]? = some (.cells #[y0, y1, y2, y3] 28 (0, 0))
 zb : W.heap[w.heap.size + 1 + 1]? = some (.cells #[z0, z1, z2, z3] 28 (0, 0))
theorem LwM.goes {w : World} {s ns : Int} {y0 y1 y2 y3 z0 z1 z2 z3 : Value} {W W' : World} (h : LwM w s ns y0 y1 y2 y3 z0 z1 z2 z3 W) (hb : Below W.heap.size W W') : LwM w s ns y0 y1 y2 y3 z0 z1 z2 z3 W' :=
 ⟨below_step h.below hb, blk_below h.inst hb, blk_below h.yb hb, blk_below h.zb hb⟩
theorem LwM.start (w : World) (s ns : Int) (y0 y1 y2 y3 z0 z1 z2 z3 : Value) : LwM w s ns y0 y1 y2 y3 z0 z1 z2 z3 (((w.alloc (.cells #[.int .i64 s, .int .i64 ns] 23)).alloc (.cells #[y0, y1, y2, y3] 28)).alloc (.cells #[z0, z1, z2, z3] 28)) := by
 have g0 := blk_new w (.cells #[.int .i64 s, .int .i64 ns] 23)
 have g1 := blk_new (w.alloc (.cells #[.int .i64 s, .int .i64 ns] 23)) (.cells #[y0, y1, y2, y3] 28)
 have g2 := blk_new ((w.alloc (.cells #[.int .i64 s, .int .i64 ns] 23)).alloc (.cells #[y0, y1, y2, y3] 28)) (.cells #[z0, z1, z2, z3] 28)
 rw [show (w.alloc (.cells #[.int .i64 s, .int .i64 ns] 23)).heap.size = w.heap.size + 1 by simp] at g1
 rw [show ((w.alloc (.cells #[.int .i64 s, .int .i64 ns] 23)).alloc (.cells #[y0, y1, y2, y3] 28)).heap.size = w.heap.size + 1 + 1 by simp] at g2
 exact ⟨below_alloc (below_alloc (below_alloc (Below.refl _ _) _) _) _, blk_alloc (blk_alloc g0 _) _, blk_alloc g1 _, g2⟩
theorem LwM.cells {w : World} {s ns : Int} {y0 y1 y2 y3 z0 z1 z2 z3 : Value} {W : World} (h : LwM w s ns y0 y1 y2 y3 z0 z1 z2 z3 W) :
  (W.cell? ⟨w.heap.size, 0, none⟩ = some (.int .i64 s) ∧ W.cell? ⟨w.heap.size, 1, none⟩ = some (.int .i64 ns)) ∧
  (W.cell? ⟨w.heap.size + 1, 0, none⟩ = some y0 ∧ W.cell? ⟨w.heap.size + 1, 1, none⟩ = some y1 ∧ W.cell? ⟨w.heap.size + 1, 2, none⟩ = some y2 ∧ W.cell? ⟨w.heap.size + 1, 3, none⟩ = some y3) ∧
  (W.cell? ⟨w.heap.size + 1 + 1, 0, none⟩ = some z0 ∧ W.cell? ⟨w.heap.size + 1 + 1, 1, none⟩ = some z1 ∧ W.cell? ⟨w.heap.size + 1 + 1, 2, none⟩ = some z2 ∧ W.cell? ⟨w.heap.size + 1 + 1, 3, none⟩ = some z3) :=
 ⟨⟨blk_cell h.inst 0, blk_cell h.inst 1⟩, ⟨blk_cell h.yb 0, blk_cell h.yb 1, blk_cell h.yb 2, blk_cell h.yb 3⟩, ⟨blk_cell h.zb 0, blk_cell h.zb 1, blk_cell h.zb 2, blk_cell h.zb 3⟩⟩
def lwT (r : Option Int) : Value := .tuple #[.agg #[.int .i64 (r.getD 0), .int .i64 0], .bool r.isSome]
theorem after_c (m : CMean) (hd : DelOk m) (s ns : Int) (h0 : -62135596800 ≤ s) (h1 : s ≤ 700000000000) (w : World) :
  Calls Tryz.prog 12 #[.agg m.cells.toArray, .agg #[.int .i64 s, .int .i64 ns], zUTC] w fun e w' => (∃ r, NxR m s r ∧ e = .returned (lwT r)) ∧ Below w.heap.size w w' := by
 obtain ⟨e, d, F, u⟩ := m
 cases e with
 | false =>
  refine (after_sets F d u s ns h0 h1 w).mono ?_
  rintro e w' ⟨⟨v, h2, rfl⟩, hb⟩
  exact ⟨⟨v, .inr ⟨rfl, h2⟩, rfl⟩, hb⟩
 | true =>
  obtain ⟨k, hk, k1, k2⟩ := hd rfl
  have hk' : d = k * 1000000000 := hk
  refine (after_every F d u s ns h0 h1 (by omega) (by omega) w).mono ?_
  rintro e w' ⟨rfl, hb⟩
  exact ⟨⟨_, .inl ⟨rfl, rfl⟩, rfl⟩, hb⟩
def LwV (m : CMean) (s ns : Int) (r2 : Option Int) (B : Nat) (_ : Unit) (j : Nat) (v : Value) (w' : World) : Prop :=
 match j with
 | 0 => v = .agg m.cells.toArray
 | 1 => v = .agg #[.int .i64 s, .int .i64 ns]
 | 2 => v = zUTC
 | 3 => v = lwT r2
 | 4 => v = lwT r2
 | 5 => v = .agg #[.int .i64 (r2.getD 0), .int .i64 0]
 | 6 => v = .bool r2.isSome
 | 7 => ∃ g, v = .pointer (some ⟨g, 0, none⟩) ∧ B ≤ g ∧ ∃ x y, w'.heap[g]? = some (.cells #[x, y] 23 (0, 0))
 | _ => True
theorem lw_keep {m : CMean} {s ns : Int} {r2 : Option Int} {B : Nat} {j : Nat} {v : Value} {w w' : World} (hb : Below w.heap.size w w')
  (h : LwV m s ns r2 B () j v w) :
  LwV m s ns r2 B () j v w' := by
 match j, h with
 | 0, h => exact h
 | 1, h => exact h
 | 2, h => exact h
 | 3, h => exact h
 | 4, h => exact h
 | 5, h => exact h
 | 6, h => exact h
 | 7, ⟨g, h1, h2, x, y, h3⟩ => exact ⟨g, h1, h2, x, y, blk_below h3 hb⟩
 | n + 8, h => exact h
theorem law_c (o wh : Int) (t : ByteArray) (s ns : Int) (y z : Value) (w : World) (ho : -9223372036854775808 ≤ o ∧ o ≤ 9223372036854775807) (hwh : -9223372036854775808 ≤ wh ∧ wh ≤ 9223372036854775807) (hs : -9223372036854775808 ≤ s ∧ s ≤ 9223372036854775807) (hns : -9223372036854775808 ≤ ns ∧ ns ≤ 9223372036854775807) (ht : t.size ≤ maxLen) (hy : ZArg w y) (hz : ZArg w z) :
  Calls Tryz.prog 3 #[.int .i64 o, .int .i64 wh, .string t, .agg #[.int .i64 s, .int .i64 ns], y, z] w fun e w' => e = .returned (.bool true) ∧ Below w.heap.size w w' := by
 obtain ⟨ry, HRY⟩ := hy.fits'
 obtain ⟨rz, HRZ⟩ := hz.fits'
 obtain ⟨gy, HOY, HGY⟩ := hy.good'
 obtain ⟨gz, HOZ, HGZ⟩ := hz.good'
 obtain ⟨y0, y1, y2, y3, rfl⟩ : ∃ y0 y1 y2 y3, y = .agg #[y0, y1, y2, y3] := ⟨_, _, _, _, hy.eq⟩
 obtain ⟨z0, z1, z2, z3, rfl⟩ : ∃ z0 z1 z2 z3, z = .agg #[z0, z1, z2, z3] := ⟨_, _, _, _, hz.eq⟩
 obtain ⟨ro, hro, HOO⟩ := options_f o
 obtain ⟨rg, HOG, hrg⟩ := good_c s ns
 have HRY := Lib.hid HRY
 have HRZ := Lib.hid HRZ
 have HGY := Lib.hid HGY
 have HGZ := Lib.hid HGZ
 have HOY := Lib.hid HOY
 have HOZ := Lib.hid HOZ
 have HOO := Lib.hid HOO
 have HOG := Lib.hid HOG
 have HRO := Lib.hid hro
 have HRG := Lib.hid hrg
 clear hro hrg hy hz
 have hu28 := Tryz.underlying28
 have hu23 := Tryz.underlying23
 go_enter Tryz.func3, Tryz.ntmps3
 go_upto_region 1 with (fail)
 have HA := Lib.hid (LwM.start w s ns y0 y1 y2 y3 z0 z1 z2 z3)
 generalize (((w.alloc (Obj.cells #[.int .i64 s, .int .i64 ns] 23)).alloc (Obj.cells #[y0, y1, y2, y3] 28)).alloc (Obj.cells #[z0, z1, z2, z3] 28)) = W at *
 by_cases c1 : (t.size : Int) > 2147483647
 ·have c1' := decide_eq_true c1
  go_wp2
  go_ret
  exact ⟨rfl, HA.out.below⟩
 have c1' := decide_eq_false c1
 cases ry with
 | false =>
  obtain ⟨⟨x0, x1⟩, ⟨b0, b1, b2, b3⟩, ⟨d0, d1, d2, d3⟩⟩ := HA.out.cells
  go_wp2_with (first
   | (go_at_call 5; refine (HRY.out _ HA.out.below).mono ?_; rintro e w2 ⟨rfl, hb2⟩; have K0 := Lib.hid (HA.out.goes hb2); clear hb2 HRY x0 x1 b0 b1 b2 b3 d0 d1 d2 d3; obtain ⟨⟨x0, x1⟩, ⟨b0, b1, b2, b3⟩, ⟨d0, d1, d2, d3⟩⟩ := K0.out.cells)
   | fail)
  go_ret
  exact ⟨rfl, K0.out.below⟩
 | true =>
 cases rz with
 | false =>
  obtain ⟨⟨x0, x1⟩, ⟨b0, b1, b2, b3⟩, ⟨d0, d1, d2, d3⟩⟩ := HA.out.cells
  go_wp2_with (first
   | (go_at_call 5; refine (HRY.out _ HA.out.below).mono ?_; rintro e w2 ⟨rfl, hb2⟩; have K1 := Lib.hid (HA.out.goes hb2); clear hb2 HRY x0 x1 b0 b1 b2 b3 d0 d1 d2 d3; obtain ⟨⟨x0, x1⟩, ⟨b0, b1, b2, b3⟩, ⟨d0, d1, d2, d3⟩⟩ := K1.out.cells)
   | (go_at_call 5; refine (HRZ.out _ K1.out.below).mono ?_; rintro e w2 ⟨rfl, hb2⟩; have K2 := Lib.hid (K1.out.goes hb2); clear hb2 HRZ x0 x1 b0 b1 b2 b3 d0 d1 d2 d3; obtain ⟨⟨x0, x1⟩, ⟨b0, b1, b2, b3⟩, ⟨d0, d1, d2, d3⟩⟩ := K2.out.cells)
   | fail)
  go_ret
  exact ⟨rfl, K2.out.below⟩
 | true =>
 obtain ⟨⟨x0, x1⟩, ⟨b0, b1, b2, b3⟩, ⟨d0, d1, d2, d3⟩⟩ := HA.out.cells
 go_upto_region 3 with (first
  | (go_at_call 5; refine (HRY.out _ HA.out.below).mono ?_; rintro e w2 ⟨rfl, hb2⟩; have K3 := Lib.hid (HA.out.goes hb2); clear hb2 HRY x0 x1 b0 b1 b2 b3 d0 d1 d2 d3; obtain ⟨⟨x0, x1⟩, ⟨b0, b1, b2, b3⟩, ⟨d0, d1, d2, d3⟩⟩ := K3.out.cells)
  | (go_at_call 5; refine (HRZ.out _ K3.out.below).mono ?_; rintro e w2 ⟨rfl, hb2⟩; have K4 := Lib.hid (K3.out.goes hb2); clear hb2 HRZ x0 x1 b0 b1 b2 b3 d0 d1 d2 d3; obtain ⟨⟨x0, x1⟩, ⟨b0, b1, b2, b3⟩, ⟨d0, d1, d2, d3⟩⟩ := K4.out.cells)
  | fail)
 clear x0 x1 b0 b1 b2 b3 d0 d1 d2 d3
 by_cases c2 : wh < 0
 ·have c2' := decide_eq_true c2
  obtain ⟨⟨x0, x1⟩, ⟨b0, b1, b2, b3⟩, ⟨d0, d1, d2, d3⟩⟩ := K4.out.cells
  go_wp2
  go_ret
  exact ⟨rfl, K4.out.below⟩
 have c2' := decide_eq_false c2
 by_cases c3 : wh ≥ 4
 ·have c3' := decide_eq_true c3
  obtain ⟨⟨x0, x1⟩, ⟨b0, b1, b2, b3⟩, ⟨d0, d1, d2, d3⟩⟩ := K4.out.cells
  go_wp2
  go_ret
  exact ⟨rfl, K4.out.below⟩
 have c3' := decide_eq_false c3
 cases ro with
 | false =>
  obtain ⟨⟨x0, x1⟩, ⟨b0, b1, b2, b3⟩, ⟨d0, d1, d2, d3⟩⟩ := K4.out.cells
  go_wp2_with (first
   | (go_at_call 6; refine (spec_CronOptions.calls o _ _ HRO.out).mono ?_; rintro e w2 ⟨rfl, hb2⟩; have K5 := Lib.hid (K4.out.goes hb2.below); clear hb2 HRO x0 x1 b0 b1 b2 b3 d0 d1 d2 d3; obtain ⟨⟨x0, x1⟩, ⟨b0, b1, b2, b3⟩, ⟨d0, d1, d2, d3⟩⟩ := K5.out.cells)
   | fail)
  go_ret
  exact ⟨rfl, K5.out.below⟩
 | true =>
 by_cases c4 : (t.size : Int) > 65536
 ·have c4' := decide_eq_true c4
  obtain ⟨⟨x0, x1⟩, ⟨b0, b1, b2, b3⟩, ⟨d0, d1, d2, d3⟩⟩ := K4.out.cells
  go_wp2_with (first
   | (go_at_call 6; refine (spec_CronOptions.calls o _ _ HRO.out).mono ?_; rintro e w2 ⟨rfl, hb2⟩; have K6 := Lib.hid (K4.out.goes hb2.below); clear hb2 HRO x0 x1 b0 b1 b2 b3 d0 d1 d2 d3; obtain ⟨⟨x0, x1⟩, ⟨b0, b1, b2, b3⟩, ⟨d0, d1, d2, d3⟩⟩ := K6.out.cells)
   | fail)
  go_ret
  exact ⟨rfl, K6.out.below⟩
 have c4' := decide_eq_false c4
 cases rg with
 | false =>
  obtain ⟨⟨x0, x1⟩, ⟨b0, b1, b2, b3⟩, ⟨d0, d1, d2, d3⟩⟩ := K4.out.cells
  go_wp2_with (first
   | (go_at_call 6; refine (spec_CronOptions.calls o _ _ HRO.out).mono ?_; rintro e w2 ⟨rfl, hb2⟩; have K7 := Lib.hid (K4.out.goes hb2.below); clear hb2 HRO x0 x1 b0 b1 b2 b3 d0 d1 d2 d3; obtain ⟨⟨x0, x1⟩, ⟨b0, b1, b2, b3⟩, ⟨d0, d1, d2, d3⟩⟩ := K7.out.cells)
   | (go_at_call 7; refine (HRG.out _).mono ?_; rintro e w2 ⟨rfl, hb2⟩; have K8 := Lib.hid (K7.out.goes hb2); clear hb2 HRG x0 x1 b0 b1 b2 b3 d0 d1 d2 d3; obtain ⟨⟨x0, x1⟩, ⟨b0, b1, b2, b3⟩, ⟨d0, d1, d2, d3⟩⟩ := K8.out.cells)
   | fail)
  go_ret
  exact ⟨rfl, K8.out.below⟩
 | true =>
 cases gy with
 | false =>
  obtain ⟨⟨x0, x1⟩, ⟨b0, b1, b2, b3⟩, ⟨d0, d1, d2, d3⟩⟩ := K4.out.cells
  go_wp2_with (first
   | (go_at_call 6; refine (spec_CronOptions.calls o _ _ HRO.out).mono ?_; rintro e w2 ⟨rfl, hb2⟩; have K9 := Lib.hid (K4.out.goes hb2.below); clear hb2 HRO x0 x1 b0 b1 b2 b3 d0 d1 d2 d3; obtain ⟨⟨x0, x1⟩, ⟨b0, b1, b2, b3⟩, ⟨d0, d1, d2, d3⟩⟩ := K9.out.cells)
   | (go_at_call 7; refine (HRG.out _).mono ?_; rintro e w2 ⟨rfl, hb2⟩; have K10 := Lib.hid (K9.out.goes hb2); clear hb2 HRG x0 x1 b0 b1 b2 b3 d0 d1 d2 d3; obtain ⟨⟨x0, x1⟩, ⟨b0, b1, b2, b3⟩, ⟨d0, d1, d2, d3⟩⟩ := K10.out.cells)
   | (go_at_call 8; refine (HGY.out _ K10.out.below).mono ?_; rintro e w2 ⟨rfl, hb2⟩; have K11 := Lib.hid (K10.out.goes hb2); clear hb2 HGY x0 x1 b0 b1 b2 b3 d0 d1 d2 d3; obtain ⟨⟨x0, x1⟩, ⟨b0, b1, b2, b3⟩, ⟨d0, d1, d2, d3⟩⟩ := K11.out.cells)
   | fail)
  go_ret
  exact ⟨rfl, K11.out.below⟩
 | true =>
 cases gz with
 | false =>
  obtain ⟨⟨x0, x1⟩, ⟨b0, b1, b2, b3⟩, ⟨d0, d1, d2, d3⟩⟩ := K4.out.cells
  go_wp2_with (first
   | (go_at_call 6; refine (spec_CronOptions.calls o _ _ HRO.out).mono ?_; rintro e w2 ⟨rfl, hb2⟩; have K12 := Lib.hid (K4.out.goes hb2.below); clear hb2 HRO x0 x1 b0 b1 b2 b3 d0 d1 d2 d3; obtain ⟨⟨x0, x1⟩, ⟨b0, b1, b2, b3⟩, ⟨d0, d1, d2, d3⟩⟩ := K12.out.cells)
   | (go_at_call 7; refine (HRG.out _).mono ?_; rintro e w2 ⟨rfl, hb2⟩; have K13 := Lib.hid (K12.out.goes hb2); clear hb2 HRG x0 x1 b0 b1 b2 b3 d0 d1 d2 d3; obtain ⟨⟨x0, x1⟩, ⟨b0, b1, b2, b3⟩, ⟨d0, d1, d2, d3⟩⟩ := K13.out.cells)
   | (go_at_call 8; refine (HGY.out _ K13.out.below).mono ?_; rintro e w2 ⟨rfl, hb2⟩; have K14 := Lib.hid (K13.out.goes hb2); clear hb2 HGY x0 x1 b0 b1 b2 b3 d0 d1 d2 d3; obtain ⟨⟨x0, x1⟩, ⟨b0, b1, b2, b3⟩, ⟨d0, d1, d2, d3⟩⟩ := K14.out.cells)
   | (go_at_call 8; refine (HGZ.out _ K14.out.below).mono ?_; rintro e w2 ⟨rfl, hb2⟩; have K15 := Lib.hid (K14.out.goes hb2); clear hb2 HGZ x0 x1 b0 b1 b2 b3 d0 d1 d2 d3; obtain ⟨⟨x0, x1⟩, ⟨b0, b1, b2, b3⟩, ⟨d0, d1, d2, d3⟩⟩ := K15.out.cells)
   | fail)
  go_ret
  exact ⟨rfl, K15.out.below⟩
 | true =>
 obtain ⟨⟨x0, x1⟩, ⟨b0, b1, b2, b3⟩, ⟨d0, d1, d2, d3⟩⟩ := K4.out.cells
 go_upto_region 5 with (first
  | (go_at_call 6; refine (spec_CronOptions.calls o _ _ HRO.out).mono ?_; rintro e w2 ⟨rfl, hb2⟩; have K16 := Lib.hid (K4.out.goes hb2.below); clear hb2 HRO x0 x1 b0 b1 b2 b3 d0 d1 d2 d3; obtain ⟨⟨x0, x1⟩, ⟨b0, b1, b2, b3⟩, ⟨d0, d1, d2, d3⟩⟩ := K16.out.cells)
  | (go_at_call 7; refine (HRG.out _).mono ?_; rintro e w2 ⟨rfl, hb2⟩; have K17 := Lib.hid (K16.out.goes hb2); clear hb2 HRG x0 x1 b0 b1 b2 b3 d0 d1 d2 d3; obtain ⟨⟨x0, x1⟩, ⟨b0, b1, b2, b3⟩, ⟨d0, d1, d2, d3⟩⟩ := K17.out.cells)
  | (go_at_call 8; refine (HGY.out _ K17.out.below).mono ?_; rintro e w2 ⟨rfl, hb2⟩; have K18 := Lib.hid (K17.out.goes hb2); clear hb2 HGY x0 x1 b0 b1 b2 b3 d0 d1 d2 d3; obtain ⟨⟨x0, x1⟩, ⟨b0, b1, b2, b3⟩, ⟨d0, d1, d2, d3⟩⟩ := K18.out.cells)
  | (go_at_call 8; refine (HGZ.out _ K18.out.below).mono ?_; rintro e w2 ⟨rfl, hb2⟩; have K19 := Lib.hid (K18.out.goes hb2); clear hb2 HGZ x0 x1 b0 b1 b2 b3 d0 d1 d2 d3; obtain ⟨⟨x0, x1⟩, ⟨b0, b1, b2, b3⟩, ⟨d0, d1, d2, d3⟩⟩ := K19.out.cells)
  | fail)
 clear x0 x1 b0 b1 b2 b3 d0 d1 d2 d3
 obtain ⟨oa, ob, o2⟩ := HOO.out (by simp)
 obtain ⟨s0, s1, n0, n1⟩ := HOG.out (by simp)
 have HZY := Lib.hid (show ZoneOk w #[y0, y1, y2, y3] from by obtain ⟨za, e, h⟩ := HOY.out (by simp); cases e; exact h)
 have HZZ := Lib.hid (show ZoneOk w #[z0, z1, z2, z3] from by obtain ⟨za, e, h⟩ := HOZ.out (by simp); cases e; exact h)
 obtain ⟨o, rfl⟩ : ∃ o' : Nat, o = (o' : Int) := ⟨o.toNat, by omega⟩
 obtain ⟨k, rfl⟩ : ∃ k : Nat, wh = (k : Int) := ⟨wh.toNat, by omega⟩
 have hk : k < 4 := by omega
 have ho5 : o < 512 := by omega
 have hH := heads_c k hk
 have HH := Lib.hid hH
 have HK := Lib.hid hk
 have hsz : (ofL (headL k) ++ t).size ≤ 65548 := by
  rw [ByteArray.size_append, ofL_size]
  have : (headL k).length ≤ 12 := by
   rcases (show k = 0 ∨ k = 1 ∨ k = 2 ∨ k = 3 by omega) with rfl | rfl | rfl | rfl <;> decide
  omega
 have hss : ¬ 9223372036854775807 < (ofL (headL k)).size + t.size := by rw [ByteArray.size_append] at hsz; omega
 have htl : toL (ofL (headL k) ++ t) = headL k ++ toL t := by
  show (ofL (headL k) ++ t).data.toList = _
  rw [Go.Joins.data_append]; rfl
 have HP := Lib.hid (parse_c o ho5 o2 (ofL (headL k) ++ t) (by omega))
 have HT := Lib.hid (fun m h hu => textAfter_c o ho5 o2 (ofL (headL k) ++ t) (by omega) m h hu s ns s0 (by omega) n0 n1)
 have HU := Lib.hid (fun m (h : ParseR (o : Int) (toL (ofL (headL k) ++ t)) m) => head_utc hk (show ParseR (o : Int) (headL k ++ toL t) m by rw [← htl]; exact h))
 clear hH hk htl o2 HOO HOG HOY HOZ
 go_upto_region 6 with (go_at_call 9; refine (HH.out _).mono ?_; rintro e w2 ⟨rfl, hb2⟩; have L1 := Lib.hid (K19.out.goes hb2); clear hb2)
 go_upto_region 7 with (first
  | (go_at_call 10; refine (HP.out _).mono ?_; rintro e w3 ⟨⟨m, v, rfl, hv0, hvR⟩, hb3⟩; have L2 := Lib.hid (L1.out.goes hb3); have HVR := Lib.hid hvR; clear hb3 hvR)
  | (refine wpList_alloc_mean rfl rfl ?_; intro b15 hg w4 hm0 hb4 hlt; have L3 := Lib.hid hb4; have HM0 := Lib.hid hm0; have HG := Lib.hid hg; clear hb4 hm0 hg hlt)
  | (refine wpList_store_mean rfl (.tmp 15) (.tmp 80) rfl b15 CMean.zero m rfl rfl HM0.out ?_; intro w5 hm1 hb5; have HM1 := Lib.hid hm1; have L4 := Lib.hid (L2.out.goes (L3.out.trans (hb5 _ (Nat.le_of_eq HG.out.symm)))); clear hm1 hb5)
  | fail)
 by_cases hv : v = 1
 case neg =>
  have hv' : (v == 1) = false := by simpa using hv
  go_wp2
  go_ret
  exact ⟨rfl, L4.out.below⟩
 subst hv
 have hR := HVR.out (by simp)
 have HUM := Lib.hid (HU.out m hR)
 have HTM := Lib.hid (HT.out m hR HUM.out)
 have HDL := Lib.hid (parse_delay hR)
 clear HT HU hR HVR HP HH L1 L2 L3 HM0 HG
 go_upto_region 9 with (fail)
 obtain ⟨⟨x0, x1⟩, ⟨b0, b1, b2, b3⟩, ⟨d0, d1, d2, d3⟩⟩ := L4.out.cells
 go_upto_region 10 with (go_at_call 11; refine (HTM.out y0 y1 y2 y3 _ (HZY.out.below L4.out.below)).mono ?_; rintro e w6 ⟨⟨r1, hr1, rfl⟩, hb6⟩; have L5 := Lib.hid (L4.out.goes hb6); have HM5 := Lib.hid (HM1.out.below hb6); have HR1 := Lib.hid hr1; clear hb6 hr1 L4 HM1 x0 x1 b0 b1 b2 b3 d0 d1 d2 d3)
 have Q1 := Lib.hid (blk_new w6 (.cells #[.int .i64 (r1.getD 0), .int .i64 0] 23))
 have L6 := Lib.hid (L5.out.goes (below_alloc (Below.refl _ _) (.cells #[.int .i64 (r1.getD 0), .int .i64 0] 23)))
 have HM6 := Lib.hid (HM5.out.below (below_alloc (Below.refl _ _) (.cells #[.int .i64 (r1.getD 0), .int .i64 0] 23)))
 clear L5 HM5
 generalize w6.heap.size = b17 at *
 generalize w6.alloc (.cells #[.int .i64 (r1.getD 0), .int .i64 0] 23) = w7 at *
 obtain ⟨⟨x0, x1⟩, ⟨b0, b1, b2, b3⟩, ⟨d0, d1, d2, d3⟩⟩ := L6.out.cells
 go_upto_region 11 with (go_at_call 11; refine (HTM.out z0 z1 z2 z3 _ (HZZ.out.below L6.out.below)).mono ?_; rintro e w8 ⟨⟨r2, hr2, rfl⟩, hb8⟩; obtain rfl := hr2.unique HR1.out; have L7 := Lib.hid (L6.out.goes hb8); have HM7 := Lib.hid (HM6.out.below hb8); have Q2 := Lib.hid (blk_below Q1.out hb8); clear hb8 hr2 L6 HM6 Q1 x0 x1 b0 b1 b2 b3 d0 d1 d2 d3)
 have Q3 := Lib.hid (blk_new w8 (.cells #[.int .i64 (r2.getD 0), .int .i64 0] 23))
 have Q4 := Lib.hid (blk_alloc Q2.out (.cells #[.int .i64 (r2.getD 0), .int .i64 0] 23))
 have L8 := Lib.hid (L7.out.goes (below_alloc (Below.refl _ _) (.cells #[.int .i64 (r2.getD 0), .int .i64 0] 23)))
 have HM8 := Lib.hid (HM7.out.below (below_alloc (Below.refl _ _) (.cells #[.int .i64 (r2.getD 0), .int .i64 0] 23)))
 clear L7 HM7 Q2
 generalize w8.heap.size = b20 at *
 generalize w8.alloc (.cells #[.int .i64 (r2.getD 0), .int .i64 0] 23) = w9 at *
 refine wp_region_ghost (Γ := Unit) (by kernel_rfl) 146 rfl 9 (LwV m s ns r2 w9.heap.size)
  (fun _ L w' => Below w9.heap.size w9 w') () (by kernel_rfl) (by kernel_rfl) (by kernel_rfl) (by kernel_rfl) (by kernel_rfl) (Below.refl _ _).drew ?_ ?_
 ·refine ⟨fun _ γ a w1 L hs' hA hnL hd hcl hO => ?_, fun _ γ a w1 L hs' hA hnL hd hcl hO => ?_, fun _ γ a w1 L hs' hA hnL hd hcl hO => ?_, fun _ γ a w1 L hs' hA hnL hd hcl hO => ?_, fun _ γ a w1 L hs' hA hnL hd hcl hO => ?_, fun _ γ a w1 L hs' hA hnL hd hcl hO => ?_, fun _ γ a w1 L hs' hA hnL hd hcl hO => ?_, fun _ γ a w1 L hs' hA hnL hd hcl hO => ?_, fun _ γ a w1 L hs' hA hnL hd hcl hO => ?_, fun h => absurd rfl h, trivial⟩
  ·have e15 : a.tmps.getD 15 undef = .pointer (some ⟨b15, 0, none⟩) := hA.old' 15
   have hM := HM8.out.below hs'
   clear hA
   show Oper.wp _ _ _ _ _ _
   refine wp_load_mid 40 (.tmp 15) rfl b15 0 (by simpa [Act.eval] using e15) m.cells _ hM.range Tryz.underlying40 rfl (by rw [CMean.cells_len]; kernel_rfl) ?_
   exact ⟨_, (), rfl, rfl, hs', fun j t _ _ h => h⟩
  ·have e9 : a.tmps.getD 9 undef = .pointer (some ⟨w.heap.size, 0, none⟩) := hA.old' 9
   obtain ⟨⟨x0, x1⟩, -, -⟩ := (L8.out.goes hs').cells
   clear hA
   refine Region.StepG.pure (X := .agg #[.int .i64 s, .int .i64 ns]) rfl ?_ rfl hs'
   go_simp
  ·clear hA
   show Oper.wp _ _ _ _ _ _
   go_simp
   refine (cronUTC_c _).mono ?_
   rintro r w4 ⟨rfl, hb4⟩
   exact ⟨_, rfl, (), rfl, below_step hs' hb4, fun j t _ _ h => lw_keep hb4 h⟩
  ·have e107 : a.tmps.getD 107 undef = .agg m.cells.toArray := hA.gotL hd 0 107
   have e108 : a.tmps.getD 108 undef = .agg #[.int .i64 s, .int .i64 ns] := hA.gotL hd 1 108
   have e109 : a.tmps.getD 109 undef = zUTC := hA.gotL hd 2 109
   clear hA
   show Oper.wp _ _ _ _ _ _
   go_simp
   refine (after_c m HDL.out s ns s0 (by omega) _).mono ?_
   rintro r w4 ⟨⟨r3, hr3, rfl⟩, hb4⟩
   obtain rfl := hr3.unique HR1.out
   exact ⟨_, rfl, (), rfl, below_step hs' hb4, fun j t _ _ h => lw_keep hb4 h⟩
  ·have e110 : a.tmps.getD 110 undef = lwT r2 := hA.gotL hd 3 110
   clear hA
   refine Region.StepG.pure (X := lwT r2) rfl ?_ rfl hs'
   go_simp
  ·have e106 : a.tmps.getD 106 undef = lwT r2 := hA.gotL hd 4 106
   unfold lwT at e106
   clear hA
   refine Region.StepG.pure (X := .agg #[.int .i64 (r2.getD 0), .int .i64 0]) rfl ?_ rfl hs'
   go_simp
  ·have e106 : a.tmps.getD 106 undef = lwT r2 := hA.gotL hd 4 106
   unfold lwT at e106
   clear hA
   refine Region.StepG.pure (X := .bool r2.isSome) rfl ?_ rfl hs'
   go_simp
  ·clear hA
   show Oper.wp _ _ _ _ _ _
   go_simp
   have hbl := below_alloc (Below.refl w1.heap.size w1) (.cells #[.int .i64 0, .int .i64 0] 23)
   exact ⟨_, rfl, (), ⟨_, rfl, hs'.size, _, _, blk_new w1 _⟩, below_step hs' hbl, fun j t _ _ h => lw_keep hbl h⟩
  ·obtain ⟨g, e23, hg, x, y, hblk⟩ := hA.gotL hd 7 23
   have e111 : a.tmps.getD 111 undef = .agg #[.int .i64 (r2.getD 0), .int .i64 0] := hA.gotL hd 5 111
   have c0 : w1.cell? ⟨g, 0, none⟩ = some x := blk_cell hblk 0
   have c1 : w1.cell? ⟨g, 1, none⟩ = some y := blk_cell hblk 1
   have f0 : w1.frozen? ⟨g, 0, none⟩ = false := blk_frozen hblk 0
   have f1 : w1.frozen? ⟨g, 1, none⟩ = false := blk_frozen hblk 1
   clear hA
   show Oper.wp _ _ _ _ _ _
   go_simp
   have q0 := blk_put hblk 0 (.int .i64 (r2.getD 0)) (cs' := #[.int .i64 (r2.getD 0), y]) rfl
   have q1 := blk_put q0 1 (.int .i64 0) (cs' := #[.int .i64 (r2.getD 0), .int .i64 0]) rfl
   refine ⟨undef, (), trivial, below_set (below_set hs' hg) hg, fun j t _ _ h => ?_⟩
   match j, h with
   | 0, h => exact h
   | 1, h => exact h
   | 2, h => exact h
   | 3, h => exact h
   | 4, h => exact h
   | 5, h => exact h
   | 6, h => exact h
   | 7, ⟨g', h1, h2, x', y', h3⟩ =>
    refine ⟨g', h1, h2, ?_⟩
    by_cases c : g' = g
    ·subst c; exact ⟨_, _, q1⟩
    ·exact ⟨x', y', blk_far (blk_far h3 (p := ⟨g, 0, none⟩) (by simpa using c) _) (p := ⟨g, 1, none⟩) (by simpa using c) _⟩
   | n + 8, h => exact h
 ·intro γ a w5 L hs' hall hO hA
  obtain ⟨x23, e23⟩ : ∃ x, a.tmps.getD 23 undef = x := ⟨_, rfl⟩
  obtain rfl := hA.frame [(107, .agg m.cells.toArray), (108, .agg #[.int .i64 s, .int .i64 ns]), (109, zUTC), (110, lwT r2), (106, lwT r2), (111, .agg #[.int .i64 (r2.getD 0), .int .i64 0]), (112, .bool r2.isSome), (23, x23), (24, undef)] (by
   intro p hp
   simp only [List.mem_cons, List.not_mem_nil, or_false] at hp
   rcases hp with rfl | rfl | rfl | rfl | rfl | rfl | rfl | rfl | rfl
   ·exact hA.end' 0 107
   ·exact hA.end' 1 108
   ·exact hA.end' 2 109
   ·exact hA.end' 3 110
   ·exact hA.end' 4 106
   ·exact hA.end' 5 111
   ·exact hA.end' 6 112
   ·exact e23
   ·exact hO 24 (Region.not_at (by kernel_rfl))) (by kernel_rfl)
  clear hA hO hall e23
  simp only [List.foldl_cons, List.foldl_nil]
  simp only [List.setIfInBounds_toArray, List.set_cons_zero, List.set_cons_succ]
  have hL9 := Lib.hid (L8.out.goes hs')
  have q17 := blk_below Q4.out hs'
  have q20 := blk_below Q3.out hs'
  have f0 : w5.cell? ⟨b17, 0, none⟩ = some (.int .i64 (r2.getD 0)) := blk_cell q17 0
  have f1 : w5.cell? ⟨b17, 1, none⟩ = some (.int .i64 0) := blk_cell q17 1
  have f2 : w5.cell? ⟨b20, 0, none⟩ = some (.int .i64 (r2.getD 0)) := blk_cell q20 0
  have f3 : w5.cell? ⟨b20, 1, none⟩ = some (.int .i64 0) := blk_cell q20 1
  obtain ⟨⟨x0, x1⟩, -, -⟩ := hL9.out.cells
  clear q17 q20 hs' L8 Q3 Q4
  show Oper.wp _ _ _ _ _ _
  have HN := HR1.out
  cases r2 with
  | none =>
   simp only [Option.getD_none, Option.isSome_none] at f0 f2 ⊢
   go_wp2
   go_ret
   exact ⟨rfl, hL9.out.below⟩
  | some x =>
   have hx := HN.bound HDL.out
   simp only [Option.getD_some, Option.isSome_some] at f0 f2 ⊢
   have HBF := Lib.hid (before_c s ns x (by omega))
   go_wp2_with (go_at_call 14; refine (HBF.out _).mono ?_; rintro e w10 ⟨rfl, hb10⟩; have L10 := Lib.hid (hL9.out.goes hb10); have f10 : w10.cell? ⟨b17, 1, none⟩ = some (.int .i64 0) := (hb10.cell (p := ⟨b17, 1, none⟩) (cell_spot f1).2).trans f1; clear hb10 HBF)
   go_ret
   exact ⟨rfl, L10.out.below⟩
open Go.ChangeShapes Go.WideShapes Go.ChangeAt Go.RowKit Go.Maps Go.Proofs.YtcjdideliifkhaaGreatDoorW.PrintWords Go.Proofs.YtcjdideliifkhaaGreatDoorW.PrintLast Go.Proofs.YtcjdideliifkhaaGreatDoorW.PrintMore PFnCronTextAfterAnywhere
open Go.ChangeMaps (open_string shut_string)
theorem wf64 {x : Int} (h : (Lit.int .i64 x).wf = true) : -9223372036854775808 ≤ x ∧ x ≤ 9223372036854775807 := by simpa [Lit.wf, IntKind.min, IntKind.max, IntKind.signed, IntKind.bits] using h
theorem own : ownKnob Tryz.prog.godebug = none := by kernel_rfl
theorem laidOut : laidOutB Tryz.prog = true := by kernel_rfl
theorem lifted (os : Os) (started : os.Started) (H : Type) (enc : TypeId × Value → H) :
  ReturnsInHanded {} Tryz.checked os 3 .any (fun w args => (Rows.fnCronTextAfterAnywhereSpec.pre enc Tryz.prog Tryz.f3 Rows.fnCronTextAfterAnywhereRow.domain false w args ∧ laidMetH Tryz.prog Rows.fnCronTextAfterAnywhereRow.laid w) ∧ sizedMet enc Tryz.prog Tryz.f3 (OpenSpec.ofChange Rows.fnCronTextAfterAnywhereSpec) false w args)
   (Rows.fnCronTextAfterAnywhereSpec.post enc Tryz.prog Tryz.f3 false true false false) := by
 refine returnsInHanded_of_change_and (C := Tryz.checked) (X := fun w _ => laidMetH Tryz.prog Rows.fnCronTextAfterAnywhereRow.laid w) (fun _ _ _ hh h => h.of_heap hh) own started (by kernel_rfl) Tryz.func3
  (ChangeSpec.witness_shaped (enc := enc) (C := Tryz.checked) (os := os) (X := fun w _ => laidMetH Tryz.prog Rows.fnCronTextAfterAnywhereRow.laid w) false (World.laidAll Tryz.prog os Rows.fnCronTextAfterAnywhereRow.laid) #[.int .i64 0, .int .i64 0, .string ByteArray.empty, .agg #[.int .i64 0, .int .i64 0], .agg #[.slice none 0 0, .slice none 0 0, .slice none 0 0, .slice none 0 0], .agg #[.slice none 0 0, .slice none 0 0, .slice none 0 0, .slice none 0 0]] 8 (World.laidAll_os _ _ _)
   (World.shaped_of_ZipB (by kernel_rfl) (by kernel_rfl)) (by kernel_rfl) (by kernel_rfl) (by kernel_rfl)
   (by rw [MakeChecks.laidMetH_plain _ _ _ (by kernel_rfl)]; exact laidMet_laidAll _ (by kernel_rfl) (by kernel_rfl))) ?_
 intro W base args ds gs before hval0 hW hc _ hL _
 have hval : ∀ (j : Nat) t v, Tryz.f3.params[j]? = some t → args[j]? = some v → Value.okWide Tryz.prog W .any base t v := hval0
 have hW' := hW
 obtain ⟨p, q, hA0, hV, rfl, _, _⟩ := hW
 have hA : DataW.TrodAll enc Tryz.prog W 0 (fun _ => true) true Tryz.f3.params.toList args.toList ds p := hA0
 rw [Tryz.params3] at hA hval
 obtain ⟨v0, vs0, d0, ds0, p0, q0, hargs, rfl, rfl, h0, r0⟩ := trodAll_cons hA
 obtain ⟨v1, vs1, d1, ds1, p1, q1, rfl, rfl, rfl, h1, r1⟩ := trodAll_cons r0
 obtain ⟨v2, vs2, d2, ds2, p2, q2, rfl, rfl, rfl, h2, r2⟩ := trodAll_cons r1
 obtain ⟨v3, vs3, d3, ds3, p3, q3, rfl, rfl, rfl, h3, r3⟩ := trodAll_cons r2
 obtain ⟨v4, vs4, d4, ds4, p4, q4, rfl, rfl, rfl, h4, r4⟩ := trodAll_cons r3
 obtain ⟨v5, vs5, d5, ds5, p5, q5, rfl, rfl, rfl, h5, r5⟩ := trodAll_cons r4
 obtain ⟨rfl, rfl, rfl⟩ := trodAll_nil r5
 obtain rfl : args = #[v0, v1, v2, v3, v4, v5] := by cases args; simp_all
 obtain ⟨rfl, rfl⟩ := trodVars_none hV
 obtain ⟨a0, rfl, rfl, rfl, w0⟩ := open_int Tryz.underlying3 (hval 0 3 v0 rfl rfl) h0
 obtain ⟨a1, rfl, rfl, rfl, w1⟩ := open_int Tryz.underlying3 (hval 1 3 v1 rfl rfl) h1
 obtain ⟨a2, rfl, rfl, rfl, w2⟩ := open_string Tryz.underlying9 (hval 2 9 v2 rfl rfl) h2
 have k3 := h3
 have k4 := h4
 have k5 := h5
 have lt3 : ∀ x ∈ p3, x.block < W.heap.size := by obtain ⟨m, hm⟩ := k3; exact DataW.trod_lt m _ _ _ hm
 have lt4 : ∀ x ∈ p4, x.block < W.heap.size := by obtain ⟨m, hm⟩ := k4; exact DataW.trod_lt m _ _ _ hm
 have lt5 : ∀ x ∈ p5, x.block < W.heap.size := by obtain ⟨m, hm⟩ := k5; exact DataW.trod_lt m _ _ _ hm
 obtain ⟨c0, c1, y0, y1, n, rfl, _, _, e0, e1⟩ := Go.Joins.open_agg2 Tryz.underlying23 (by kernel_rfl) (by kernel_rfl) (hval 3 23 v3 rfl rfl) h3
 obtain ⟨s, g0, g1, ws⟩ := DataW.trod_int Tryz.underlying2 e0
 obtain ⟨ns, g2, g3, wn⟩ := DataW.trod_int Tryz.underlying3 e1
 simp only [List.cons.injEq, and_true] at g0 g2
 subst g0
 subst g2
 obtain ⟨zy⟩ := zarg_of (hval 4 28 v4 rfl rfl) h4
 obtain ⟨zz⟩ := zarg_of (hval 5 28 v5 rfl rfl) h5
 clear hA0 hval0
 refine (law_c a0 a1 a2 s ns v4 v5 W (wf64 w0) (wf64 w1) (wf64 ws) (wf64 wn) w2 zy zz).mono fun e W' ⟨he, bel⟩ => ?_
 subst he
 exact ⟨_, rfl, _, _, _, [], _, [], hW', trodAll_mk1 (shut_bool Tryz.underlying4 _), trodAll_cons_mk (shut_int Tryz.underlying3 w0) (trodAll_cons_mk (shut_int Tryz.underlying3 w1) (trodAll_cons_mk (shut_string Tryz.underlying9 w2) (trodAll_cons_mk (Below.trod laidOut (by kernel_rfl) (of_decide_eq_true (by kernel_rfl)) k3 bel lt3) (trodAll_cons_mk (Below.trod laidOut (by kernel_rfl) (of_decide_eq_true (by kernel_rfl)) k4 bel lt4) (trodAll_cons_mk (Below.trod laidOut (by kernel_rfl) (of_decide_eq_true (by kernel_rfl)) k5 bel lt5) trodAll_mk0))))), rfl, bel.frame _, fun h => by cases h⟩
theorem row_holds : Rows.FnCronTextAfterAnywhereSaid :=
 OpenClaim.holds_of_wide 3 Tryz.f3 rfl rfl rfl rfl rfl rfl rfl ⟨rfl, rfl, rfl, rfl, rfl⟩ rfl rfl rfl rfl rfl (by kernel_rfl) Tryz.func3 (by kernel_rfl)
  (of_decide_eq_true (by kernel_rfl)) (by unfold Func.isWrapper; first | (rw [if_pos (by decide +kernel)]; kernel_rfl) | (rw [if_neg (by decide +kernel)]; exact ⟨rfl, rfl⟩))
  (fun os started H enc _ => lifted os started H enc)
theorem card_holds : Rows.FnCronTextAfterAnywhereCardSaid :=
 Claim7.holds_tied_plain_at .later [] [.data, .data, .data, .data, .sentinel, .sentinel, .sentinel, .sentinel, .pinned] true (true, "6a2fe40854b69a7010194049a294e93be7931b6554b3a085ba4041611ed40924") true row_holds (fun _ h => by cases h) (by kernel_rfl) (fun _ h => by cases h) fnCronTextAfterAnywhere_row_tie rfl ⟨rfl, rfl⟩ (by kernel_rfl) rfl
  (fun f fn hf hfn => by
   obtain rfl : f = 3 := Option.some.inj ((show Tryz.prog.funcNamed "pub-timebook/laws.FnCronTextAfterAnywhere" = some 3 by kernel_rfl).symm.trans hf) |>.symm
   obtain rfl : fn = Tryz.f3 := (Option.some.inj (Tryz.func3.symm.trans hfn)).symm
   exact ⟨by kernel_rfl, fun j t ht => by
    rw [Tryz.params3] at ht
    have hm : t ∈ [3, 3, 9, 23, 28, 28] := by simpa using Array.mem_of_getElem? ht
    have hall : ([3, 3, 9, 23, 28, 28].all fun u => !Tryz.prog.wantsStandIn u) = true := by kernel_rfl
    exact (show Tryz.prog.wantsStandIn t = false by simpa using List.all_eq_true.1 hall t hm)⟩)
  (by kernel_rfl)
#print axioms card_holds
end Go.Proofs.YtcjdideliifkhaaGreatDoor
