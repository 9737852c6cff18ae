import Derived.Defers
import Derived.Recover
import Derived.Test.YtcjdideliifkhaaGreatDoorA45
import Derived.Test.YtcjdideliifkhaaGreatDoorA24
set_option maxRecDepth 100000
set_option maxHeartbeats 16000000
namespace Go.Proofs.YtcjdideliifkhaaGreatDoor
open Go.RowKit Go.Maps Go.Proofs.YtcjdideliifkhaaGreatDoorW.PrintWords Go.Proofs.YtcjdideliifkhaaGreatDoorW.PrintLast Go.Proofs.YtcjdideliifkhaaGreatDoorW.PrintMore PFnCronTextAfterAnywhere
set_option linter.unusedVariables false
set_option linter.unusedSimpArgs false
theorem two_cases : ((List.range 512).all fun o => (spec_CronTwoOptional.f (o : Int)) != some false || (decide (0 < Go.bits .and .i64 (o : Int) 128) == false || decide (0 < Go.bits .and .i64 (o : Int) 2) == false)) = true := by kernel_rfl
theorem two_case (o : Nat) (ho : o < 512) (h2 : spec_CronTwoOptional.f (o : Int) = some false) : decide (0 < Go.bits .and .i64 (o : Int) 128) = false ∨ decide (0 < Go.bits .and .i64 (o : Int) 2) = false := by
 have := List.all_eq_true.1 two_cases o (List.mem_range.2 ho)
 rw [h2] at this
 simpa using this
theorem newParser_c (o : Nat) (ho : o < 512) (h2 : spec_CronTwoOptional.f (o : Int) = some false) (w : World) :
  Calls Tryz.prog 48 #[.int .i64 (o : Int)] w fun e w' => e = .returned (.agg #[.int .i64 (o : Int)]) ∧ Below w.heap.size w w' := by
 obtain ⟨b1, hb1⟩ : ∃ b, decide (0 < Go.bits .and .i64 (o : Int) 128) = b := ⟨_, rfl⟩
 obtain ⟨b2, hb2⟩ : ∃ b, decide (0 < Go.bits .and .i64 (o : Int) 2) = b := ⟨_, rfl⟩
 have h := two_case o ho h2
 rw [hb1, hb2] at h
 have hu78 := Tryz.underlying78
 clear h2
 rcases h with rfl | rfl
 ·cases b2
  all_goals
   go_enter Tryz.func48, Tryz.ntmps48
   go_wp2
   refine bodyPost_ret (results_cell_row rfl _ _ w.heap.size 78 #[.int .i64 (o : Int)] (0, 0) _ rfl (blk_new w _) Tryz.underlying78 rfl (by kernel_rfl)) rfl ?_
   exact ⟨rfl, below_alloc (Below.refl _ _) _⟩
 ·cases b1
  all_goals
   go_enter Tryz.func48, Tryz.ntmps48
   go_wp2
   refine bodyPost_ret (results_cell_row rfl _ _ w.heap.size 78 #[.int .i64 (o : Int)] (0, 0) _ rfl (blk_new w _) Tryz.underlying78 rfl (by kernel_rfl)) rfl ?_
   exact ⟨rfl, below_alloc (Below.refl _ _) _⟩
theorem catch_idle (p : Value) (w : World) :
  CallsD Tryz.prog 47 #[p] .returning w fun e u' w' => e = .returned (.tuple #[]) ∧ u' = .returning ∧ w' = w := by
 refine callsD_of_wpS Tryz.func47 rfl fun c₀ cs hu => ?_
 apply wpS_seq
 apply wpS_region
 simp [wpOpsS, go_sem, recoverD, hu, Tryz.ntmps47, Exit.thenS]
 refine wpS_cond (t := false) (by simp [Act.eval, Array.replicate]) ?_
 simp only [Bool.false_eq_true, if_false]
 refine wpS_of_wp (wp_skip ?_)
 cases c₀
 simp_all [bodyPostS, results, Tryz.results47]
theorem parser_c (o : Nat) (ho : o < 512) (h2 : spec_CronTwoOptional.f (o : Int) = some false) (w : World) :
  Calls Tryz.prog 29 #[.int .i64 (o : Int)] w fun e w' => e = .returned (.tuple #[.agg #[.int .i64 (o : Int)], .bool false]) ∧ Below w.heap.size w w' := by
 have hmf : ∀ (fn : Fn) (first cap : Array Value) (w : World), (Instr.makeFunc fn first cap).run Tryz.prog w = .ok (.func fn first cap) w := fun _ _ _ _ => rfl
 have HN := Lib.hid (newParser_c o ho h2)
 have hu78 := Tryz.underlying78
 clear h2
 go_enter_defers Tryz.func29, Tryz.ntmps29
 have g0 := blk_new w (.cells #[.int .i64 0] 78)
 have g1 := blk_new (w.alloc (.cells #[.int .i64 0] 78)) (.cells #[.bool false] 4)
 rw [show (w.alloc (.cells #[.int .i64 0] 78)).heap.size = w.heap.size + 1 by simp] at g1
 have hb1 : Below w.heap.size w ((w.alloc (.cells #[.int .i64 0] 78)).alloc (.cells #[.bool false] 4)) := below_alloc (below_alloc (Below.refl _ _) _) _
 have G0 := Lib.hid (show ((w.alloc (.cells #[.int .i64 0] 78)).alloc (.cells #[.bool false] 4)).heap[w.heap.size]? = some (.cells #[.int .i64 0] 78 (0, 0)) from blk_alloc g0 _)
 have G1 := Lib.hid g1
 have HB1 := Lib.hid hb1
 clear g0 g1 hb1
 go_wp2_with (go_at_call 48; refine (HN.out _).mono ?_; rintro e w2 ⟨rfl, hb2⟩; have HB2 := Lib.hid (below_step HB1.out hb2); have q0 := blk_below G0.out hb2; have q1 := blk_below G1.out hb2; have Q0 := Lib.hid q0; have Q1 := Lib.hid q1; have c0 : w2.cell? ⟨w.heap.size, 0, none⟩ = some (.int .i64 0) := blk_cell q0 0; have f0 : w2.frozen? ⟨w.heap.size, 0, none⟩ = false := blk_frozen q0 0; have r1 := blk_far q1 (p := ⟨w.heap.size, 0, none⟩) (by simp) (.int .i64 (o : Int)); have c1 : (w2.setCell ⟨w.heap.size, 0, none⟩ (.int .i64 (o : Int))).cell? ⟨w.heap.size + 1, 0, none⟩ = some (.bool false) := blk_cell r1 0; have f1 : (w2.setCell ⟨w.heap.size, 0, none⟩ (.int .i64 (o : Int))).frozen? ⟨w.heap.size + 1, 0, none⟩ = false := blk_frozen r1 0; clear hb2 q0 q1 r1)
 have p0 := blk_put Q0.out 0 (.int .i64 (o : Int)) (cs' := #[.int .i64 (o : Int)]) rfl
 have p1 := blk_far p0 (p := ⟨w.heap.size + 1, 0, none⟩) (by simp) (.bool false)
 have p2 := blk_put (blk_far Q1.out (p := ⟨w.heap.size, 0, none⟩) (by simp) (.int .i64 (o : Int))) 0 (.bool false) (cs' := #[.bool false]) rfl
 have hbw : Below w.heap.size w ((w2.setCell ⟨w.heap.size, 0, none⟩ (.int .i64 (o : Int))).setCell ⟨w.heap.size + 1, 0, none⟩ (.bool false)) := below_set (below_set HB2.out (Nat.le_refl _)) (by simp)
 clear c0 f0 c1 f1 p0
 generalize (w2.setCell ⟨w.heap.size, 0, none⟩ (.int .i64 (o : Int))).setCell ⟨w.heap.size + 1, 0, none⟩ (.bool false) = W at *
 refine leaves_cons (f := 47) (args := #[.pointer (some ⟨w.heap.size + 1, 0, none⟩)]) (by simp) (by simp [go_sem]) ?_
 refine (catch_idle _ _).mono ?_
 rintro e u' w'' ⟨rfl, rfl, rfl⟩
 have c0 : w''.cell? ⟨w.heap.size, 0, none⟩ = some (.int .i64 (o : Int)) := blk_cell p1 0
 have c1 : w''.cell? ⟨w.heap.size + 1, 0, none⟩ = some (.bool false) := blk_cell p2 0
 simp [Leaves, settle, results, Tryz.results29, go_sem, c0, c1, hu78]
 exact hbw
theorem pow_and_pos (N k : Nat) : decide ((0 : Int) < ((2 ^ k &&& N : Nat) : Int)) = N.testBit k := by
 cases h : N.testBit k with
 | true =>
  have h1 : (2 ^ k &&& N).testBit k = true := by rw [Nat.testBit_and, h, Nat.testBit_two_pow]; simp
  have h2 : 2 ^ k &&& N ≠ 0 := fun e => by rw [e, Nat.zero_testBit] at h1; cases h1
  simp; omega
 | false =>
  have h2 : 2 ^ k &&& N = 0 := Nat.eq_of_testBit_eq fun i => by
   rw [Nat.testBit_and, Nat.zero_testBit, Nat.testBit_two_pow]
   by_cases e : k = i
   ·subst e; rw [h, Bool.and_false]
   ·simp [e]
  rw [h2]; rfl
theorem hasBit_of {N : Nat} {t : CSet} (h : BitsOf N t) (k : Int) (h0 : 0 ≤ k) (h1 : k < 63) : hasBit (N : Int) k = t.has k.toNat := by
 unfold hasBit bitOf
 have hp : 2 ^ k.toNat < 2 ^ 64 := Nat.pow_lt_pow_right (by decide) (by omega)
 have hw : IntKind.u64.wrap ((2 : Int) ^ k.toNat) = ((2 ^ k.toNat : Nat) : Int) := by
  have e : ((2 : Int) ^ k.toNat) = ((2 ^ k.toNat : Nat) : Int) := by simp
  rw [e, wraps_u64 _ (Int.natCast_nonneg _) (by exact_mod_cast hp)]
 rw [hw, (bits_nat .u64 64 (by decide) wraps_u64 _ N hp h.1).1, pow_and_pos]
 exact h.2.1 _ (by omega)
theorem hasStar_of {N : Nat} {t : CSet} (h : BitsOf N t) : hasStar (N : Int) = t.star := by
 unfold hasStar
 have e : (9223372036854775808 : Int) = ((2 ^ 63 : Nat) : Int) := by decide
 rw [e, (bits_nat .u64 64 (by decide) wraps_u64 N (2 ^ 63) h.1 (by decide)).1, Nat.and_comm, pow_and_pos]
 exact h.2.2
theorem fits_same {n0 n1 n2 n3 n4 n5 : Nat} {F : CF} (h0 : BitsOf n0 (F 0)) (h1 : BitsOf n1 (F 1)) (h2 : BitsOf n2 (F 2)) (h3 : BitsOf n3 (F 3)) (h4 : BitsOf n4 (F 4)) (h5 : BitsOf n5 (F 5)) (u : Int) :
  Cal.fits (fOf n0 n1 n2 n3 n4 n5) u = Cal.fits (fF F) u := by
 obtain ⟨a1, a2, a3, a4⟩ := Cal.date_valid (u / 86400)
 have a5 := (Cal.mdays_pos (Cal.Y (u / 86400)) (Cal.M (u / 86400))).2
 have a6 : 0 ≤ Cal.W (u / 86400) ∧ Cal.W (u / 86400) < 7 := by unfold Cal.W; omega
 have b4 := hasBit_of h4 (Cal.M (u / 86400)) (by omega) (by omega)
 have b3 := hasBit_of h3 (Cal.D (u / 86400)) (by omega) (by omega)
 have b5 := hasBit_of h5 (Cal.W (u / 86400)) (by omega) (by omega)
 have b2 := hasBit_of h2 (u % 86400 / 3600) (by omega) (by omega)
 have b1 := hasBit_of h1 (u % 3600 / 60) (by omega) (by omega)
 have b0 := hasBit_of h0 (u % 60) (by omega) (by omega)
 have s3 := hasStar_of h3
 have s5 := hasStar_of h5
 unfold Cal.fits Cal.dayFits fOf fF
 simp only [b0, b1, b2, b3, b4, b5, s3, s5]
theorem Ans_congr {f f' : Cal.F} (h : ∀ u, Cal.fits f u = Cal.fits f' u) {a b : Int} {v : Option Int} (hv : Cal.Ans f a b v) : Cal.Ans f' a b v := by
 cases v with
 | none => intro u h1 h2; rw [← h]; exact hv u h1 h2
 | some v =>
  obtain ⟨h1, h2, h3, h4⟩ := hv
  exact ⟨h1, by rw [← h]; exact h2, h3, fun u a b => by rw [← h]; exact h4 u a b⟩
theorem ans_bound {f : Cal.F} {s v : Int} (h : Cal.Ans f (s + 1) (Cal.Y ((s + 1) / 86400) + 5) (some v)) : s + 1 ≤ v ∧ v ≤ s + 300000000 := by
 obtain ⟨h1, _, h3, _⟩ := h
 obtain ⟨y1, y2⟩ := Cal.Y_bounds ((s + 1) / 86400)
 obtain ⟨z1, z2⟩ := Cal.Y_bounds (v / 86400)
 refine ⟨h1, ?_⟩
 have key : Cal.ys (Cal.Y (v / 86400) + 1) ≤ Cal.ys (Cal.Y ((s + 1) / 86400) + 6) := by
  by_cases e : Cal.Y (v / 86400) + 1 = Cal.Y ((s + 1) / 86400) + 6
  ·rw [e]; exact Int.le_refl _
  ·have := Cal.ys_lt (y := Cal.Y (v / 86400) + 1) (y' := Cal.Y ((s + 1) / 86400) + 6) (by omega)
   split at this <;> omega
 have h6 : Cal.ys (Cal.Y ((s + 1) / 86400) + 6) ≤ Cal.ys (Cal.Y ((s + 1) / 86400)) + 2300 := by
  generalize Cal.Y ((s + 1) / 86400) = y at *
  unfold Cal.ys; omega
 generalize Cal.ys (Cal.Y (v / 86400) + 1) = p1 at *
 generalize Cal.ys (Cal.Y ((s + 1) / 86400) + 6) = p2 at *
 generalize Cal.ys (Cal.Y ((s + 1) / 86400)) = p3 at *
 clear h3 z1
 omega
def NxR (m : CMean) (s : Int) (v : Option Int) : Prop :=
 (m.every = true ∧ v = some (s + m.delay / 1000000000)) ∨ (m.every = false ∧ Cal.Ans (fF m.F) (s + 1) (Cal.Y ((s + 1) / 86400) + 5) v)
theorem NxR.unique {m : CMean} {s : Int} {v v' : Option Int} (h : NxR m s v) (h' : NxR m s v') : v = v' := by
 rcases h with ⟨h1, rfl⟩ | ⟨h1, h2⟩
 ·rcases h' with ⟨_, rfl⟩ | ⟨h3, _⟩
  ·rfl
  ·rw [h1] at h3; cases h3
 ·rcases h' with ⟨h3, _⟩ | ⟨_, h4⟩
  ·rw [h1] at h3; cases h3
  ·exact h2.unique h4
def DelOk (m : CMean) : Prop := m.every = true → ∃ k : Int, m.delay = k * 1000000000 ∧ 1 ≤ k ∧ k ≤ 4611686019
theorem NxR.bound {m : CMean} {s v : Int} (hd : DelOk m) (h : NxR m s (some v)) : s + 1 ≤ v ∧ v ≤ s + 4611686019 := by
 rcases h with ⟨h1, h2⟩ | ⟨h1, h2⟩
 ·obtain ⟨k, hk, k1, k2⟩ := hd h1
  injection h2 with h2
  rw [hk] at h2
  omega
 ·have := ans_bound h2; omega
theorem delayL_ok (d : Int) (h : d ≤ 4611686018427387904) : ∃ k : Int, delayL d = k * 1000000000 ∧ 1 ≤ k ∧ k ≤ 4611686019 := by
 unfold delayL
 split
 ·exact ⟨1, rfl, by decide, by decide⟩
 ·exact ⟨d / 1000000000, rfl, by omega, by omega⟩
theorem plain_delay {o : Int} {l : Txt} {m : CMean} (h : PlainR o l m) : DelOk m := by
 rcases h with ⟨_, h⟩ | ⟨_, _, h⟩
 ·obtain ⟨_, _, _, _, _, h, _⟩ := h; intro e; rw [h] at e; cases e
 ·rcases h with ⟨_, h⟩ | ⟨_, _, d, h, rfl⟩
  ·obtain ⟨_, _, _, _, _, h, _⟩ := h; intro e; rw [h] at e; cases e
  ·exact fun _ => delayL_ok d (DurR_le h)
theorem parse_delay {o : Int} {l : Txt} {m : CMean} (h : ParseR o l m) : DelOk m := by
 rcases h with ⟨_, _, h⟩ | ⟨_, _, _, _, m0, _, _, _, _, h, rfl⟩
 ·exact plain_delay h
 ·intro e
  have h' := plain_delay h
  exact h' e
def AftQ (m : CMean) (s : Int) (w : World) (e : Ending) (w' : World) : Prop :=
 (∃ v : Option Int, NxR m s v ∧ e = .returned (.tuple #[.agg #[.int .i64 (v.getD 0), .int .i64 0], .bool v.isSome, .bool true])) ∧ Below w.heap.size w w'
structure AfM (w : World) (s ns : Int) (z0 z1 z2 z3 : Value) (W : World) : Prop where
 below : Below w.heap.size w W
 inst : W.heap[w.heap.size]? = some (.cells #[.int .i64 s, .int .i64 ns] 23 (0, 0))
 zone : W.heap[w.heap.size + 1]? = some (.cells #[z0, z1, z2, z3] 28 (0, 0))
 res : W.heap[w.heap.size + 2]? = some (.cells #[.int .i64 0, .int .i64 0] 23 (0, 0))
theorem AfM.goes {w : World} {s ns : Int} {z0 z1 z2 z3 : Value} {W W' : World} (h : AfM w s ns z0 z1 z2 z3 W) (hb : Below W.heap.size W W') : AfM w s ns z0 z1 z2 z3 W' :=
 ⟨below_step h.below hb, blk_below h.inst hb, blk_below h.zone hb, blk_below h.res hb⟩
theorem AfM.start (w : World) (s ns : Int) (z0 z1 z2 z3 : Value) : AfM w s ns z0 z1 z2 z3 (((w.alloc (.cells #[.int .i64 s, .int .i64 ns] 23)).alloc (.cells #[z0, z1, z2, z3] 28)).alloc (.cells #[.int .i64 0, .int .i64 0] 23)) := by
 have g0 := blk_new w (.cells #[.int .i64 s, .int .i64 ns] 23)
 have g1 := blk_new (w.alloc (.cells #[.int .i64 s, .int .i64 ns] 23)) (.cells #[z0, z1, z2, z3] 28)
 have g2 := blk_new ((w.alloc (.cells #[.int .i64 s, .int .i64 ns] 23)).alloc (.cells #[z0, z1, z2, z3] 28)) (.cells #[.int .i64 0, .int .i64 0] 23)
 rw [show (w.alloc (.cells #[.int .i64 s, .int .i64 ns] 23)).heap.size = w.heap.size + 1 by simp] at g1
 rw [show ((w.alloc (.cells #[.int .i64 s, .int .i64 ns] 23)).alloc (.cells #[z0, z1, z2, z3] 28)).heap.size = w.heap.size + 2 by simp] at g2
 exact ⟨below_alloc (below_alloc (below_alloc (Below.refl _ _) _) _) _, blk_alloc (blk_alloc g0 _) _, blk_alloc g1 _, g2⟩
theorem SchedR.below {w w' : World} {m : CMean} {loc : Option Addr} {v : Value} (h : SchedR w m loc v) (hb : Below w.heap.size w w') : SchedR w' m loc v := by
 rcases h with ⟨h1, b, n0, n1, n2, n3, n4, n5, rfl, h2, h3⟩ | h
 ·exact .inl ⟨h1, b, n0, n1, n2, n3, n4, n5, rfl, h2.below hb, h3⟩
 ·exact .inr h
structure AfG where
 done : Bool
 r : Option (Option Int)
structure AfR (w : World) (s ns : Int) (z0 z1 z2 z3 : Value) (m : CMean) (loc : Option Addr) (u : Bool) (sv : Value) (γ : AfG) (L : Nat → Prop) (W : World) : Prop where
 below : Below w.heap.size w W
 ahead : γ.done = false → AfM w s ns z0 z1 z2 z3 W ∧ SchedR W m loc sv ∧ LocOk W loc u
 behind : γ.done = true → ∃ r, γ.r = some r ∧ W.heap[w.heap.size + 2]? = some (.cells #[.int .i64 (r.getD 0), .int .i64 0] 23 (0, 0))
 done : γ.done = true ↔ L 13
 r : ∀ r, γ.r = some r → NxR m s r ∧ L 8
def AfV (s ns : Int) (z0 z1 z2 z3 : Value) (sv : Value) (γ : AfG) (j : Nat) (v : Value) (w : World) : Prop :=
 match j with
 | 0 => v = sv
 | 1 => v = .agg #[.int .i64 s, .int .i64 ns]
 | 2 => v = .agg #[z0, z1, z2, z3]
 | 3 => γ.done = false → ∃ o lv, v = .pointer (some ⟨o, 0, none⟩) ∧ Org w o lv
 | 4 => γ.done = false → ∃ o lv, v = tm ns (s + 62135596800) lv ∧ Org w o lv
 | 5 => v = .func (.method "Next") #[sv] #[]
 | 7 => v = sv
 | 8 => ∃ r p, γ.r = some r ∧ v = (match r with | some x => tm 0 (x + 62135596800) (.pointer p) | none => tm 0 0 (.pointer p))
 | 9 => ∃ r : Option Int, γ.r = some r ∧ v = .tuple #[.agg #[.int .i64 (r.getD 0), .int .i64 0], .bool r.isSome]
 | 10 => ∃ r : Option Int, γ.r = some r ∧ v = .tuple #[.agg #[.int .i64 (r.getD 0), .int .i64 0], .bool r.isSome]
 | 11 => ∃ r : Option Int, γ.r = some r ∧ v = .agg #[.int .i64 (r.getD 0), .int .i64 0]
 | 12 => ∃ r : Option Int, γ.r = some r ∧ v = .bool r.isSome
 | _ => True
theorem AfR.goes {w : World} {s ns : Int} {z0 z1 z2 z3 : Value} {m : CMean} {loc : Option Addr} {u : Bool} {sv : Value} {γ : AfG} {L : Nat → Prop} {W W' : World} (h : AfR w s ns z0 z1 z2 z3 m loc u sv γ L W) (hb : Below W.heap.size W W') : AfR w s ns z0 z1 z2 z3 m loc u sv γ L W' :=
 ⟨below_step h.below hb, fun e => ⟨(h.ahead e).1.goes hb, (h.ahead e).2.1.below hb, (h.ahead e).2.2.below hb⟩, fun e => by
  obtain ⟨r, h1, h2⟩ := h.behind e
  exact ⟨r, h1, blk_below h2 hb⟩, h.done, h.r⟩
theorem AfR.other {w : World} {s ns : Int} {z0 z1 z2 z3 : Value} {m : CMean} {loc : Option Addr} {u : Bool} {sv : Value} {γ : AfG} {L : Nat → Prop} {W : World} (h : AfR w s ns z0 z1 z2 z3 m loc u sv γ L W) {n : Nat} (hn : 13 ≠ n) : AfR w s ns z0 z1 z2 z3 m loc u sv γ (fun j => j = n ∨ L j) W :=
 ⟨h.below, h.ahead, h.behind, ⟨fun e => .inr (h.done.1 e), fun e => h.done.2 (e.resolve_left hn)⟩, fun r hr => ⟨(h.r r hr).1, .inr (h.r r hr).2⟩⟩
theorem Org.place {w : World} {o : Nat} {lv : Value} (h : Org w o lv) : lv = .pointer none ∨ ∃ z, z < w.heap.size ∧ w.cell? ⟨z, 0, none⟩ = some (.bool false) ∧ lv = .pointer (some ⟨z, 0, none⟩) := by
 rcases h with ⟨_, rfl⟩ | ⟨h1, h2, rfl⟩
 ·exact .inl rfl
 ·exact .inr ⟨o, h1, h2, rfl⟩
theorem Org.ptr {w : World} {o : Nat} {lv : Value} (h : Org w o lv) : ∃ p, lv = .pointer p := by
 rcases h with ⟨_, rfl⟩ | ⟨h1, h2, rfl⟩ <;> exact ⟨_, rfl⟩
theorem AfR.answer {w : World} {s ns : Int} {z0 z1 z2 z3 : Value} {m : CMean} {loc : Option Addr} {u : Bool} {sv : Value} {γ : AfG} {L : Nat → Prop} {W W' : World} (h : AfR w s ns z0 z1 z2 z3 m loc u sv γ L W) (hb : Below W.heap.size W W') (hrn : γ.r = none) {x : Option Int} (hx : NxR m s x) : AfR w s ns z0 z1 z2 z3 m loc u sv ⟨γ.done, some x⟩ (fun j => j = 8 ∨ L j) W' := by
 have h' := (h.goes hb).other (n := 8) (by decide)
 refine ⟨h'.below, h'.ahead, fun e => ?_, h'.done, ?_⟩
 ·obtain ⟨r, h1, _⟩ := h.behind e
  rw [hrn] at h1; cases h1
 intro r hr
 cases hr
 exact ⟨hx, .inl rfl⟩
theorem AfV.keep {s ns : Int} {z0 z1 z2 z3 : Value} {sv : Value} {γ : AfG} {j : Nat} {v : Value} {w w' : World} (hb : Below w.heap.size w w') (h : AfV s ns z0 z1 z2 z3 sv γ j v w) : AfV s ns z0 z1 z2 z3 sv γ j v w' := by
 match j, h with
 | 0, h => exact h
 | 1, h => exact h
 | 2, h => exact h
 | 3, h => exact fun e => (h e).imp fun o ⟨lv, h1, h2⟩ => ⟨lv, h1, h2.below hb⟩
 | 4, h => exact fun e => (h e).imp fun o ⟨lv, h1, h2⟩ => ⟨lv, h1, h2.below hb⟩
 | 5, h => exact h
 | 6, h => exact h
 | 7, h => exact h
 | 8, h => exact h
 | 9, h => exact h
 | 10, h => exact h
 | 11, h => exact h
 | 12, h => exact h
 | n + 13, h => exact h
theorem AfV.answer {s ns : Int} {z0 z1 z2 z3 : Value} {sv : Value} {γ : AfG} {j : Nat} {v : Value} {w w' : World} {L : Nat → Prop} (hb : Below w.heap.size w w') (hrn : γ.r = none) {x : Option Int} (hj : L j) (hnL : ¬ L 8) (h : AfV s ns z0 z1 z2 z3 sv γ j v w) : AfV s ns z0 z1 z2 z3 sv ⟨γ.done, some x⟩ j v w' := by
 have no : ∀ {r : Option Int} {X : Prop}, γ.r = some r → X := fun e => by rw [hrn] at e; cases e
 have h' := AfV.keep hb h
 match j, h' with
 | 0, h => exact h
 | 1, h => exact h
 | 2, h => exact h
 | 3, h => exact h
 | 4, h => exact h
 | 5, h => exact h
 | 6, h => exact h
 | 7, h => exact h
 | 8, ⟨r, p, h, _⟩ => exact no h
 | 9, ⟨r, h, _⟩ => exact no h
 | 10, ⟨r, h, _⟩ => exact no h
 | 11, ⟨r, h, _⟩ => exact no h
 | 12, ⟨r, h, _⟩ => exact no h
 | n + 13, h => exact h
theorem textAfter_c (o : Nat) (ho : o < 512) (h2 : spec_CronTwoOptional.f (o : Int) = some false) (t : ByteArray) (ht : t.size ≤ 4294950000) (m : CMean) (h : ParseR (o : Int) (toL t) m) (hu : m.every = false → m.utc = true) (s ns : Int) (h0 : -62135596800 ≤ s) (h1 : s ≤ 700000000000) (n0 : 0 ≤ ns) (n1 : ns < 1000000000) (z0 z1 z2 z3 : Value) (w : World) (hz : ZoneOk w #[z0, z1, z2, z3]) :
  Calls Tryz.prog 11 #[.int .i64 (o : Int), .string t, .agg #[.int .i64 s, .int .i64 ns], .agg #[z0, z1, z2, z3]] w (AftQ m s w) := by
 have HP := Lib.hid (parser_c o ho h2)
 have HG := Lib.hid (parseG_c o ho h2 t ht m h)
 have HDL := Lib.hid (parse_delay h)
 have HU := Lib.hid hu
 have HZ := Lib.hid hz
 clear h2 h hu hz
 go_enter Tryz.func11, Tryz.ntmps11
 go_upto_region 1 with (fail)
 have HA := Lib.hid (AfM.start w s ns z0 z1 z2 z3)
 generalize (((w.alloc (Obj.cells #[.int .i64 s, .int .i64 ns] 23)).alloc (Obj.cells #[z0, z1, z2, z3] 28)).alloc (Obj.cells #[.int .i64 0, .int .i64 0] 23)) = W at *
 go_upto_region 2 with (go_at_call 29; refine (HP.out _).mono ?_; rintro e w2 ⟨rfl, hb2⟩; have HA2 := Lib.hid (HA.out.goes hb2); clear hb2)
 have q := blk_new w2 (.cells #[.int .i64 (o : Int)] 78)
 have HA3 := Lib.hid (HA2.out.goes (below_alloc (Below.refl _ _) (.cells #[.int .i64 (o : Int)] 78)))
 have c0 : (w2.alloc (.cells #[.int .i64 (o : Int)] 78)).cell? ⟨w2.heap.size, 0, none⟩ = some (.int .i64 (o : Int)) := blk_cell q 0
 have hu78 := Tryz.underlying78
 clear q HA HA2
 generalize w2.heap.size = b11 at *
 generalize w2.alloc (.cells #[.int .i64 (o : Int)] 78) = W3 at *
 go_upto_region 5 with (go_at_call 30; refine (HG.out _).mono ?_; rintro e w4 ⟨⟨sv, loc, u, rfl, hs, hl, hmu⟩, hb4⟩; have HA4 := Lib.hid (HA3.out.goes hb4); have HS := Lib.hid hs; have HLO := Lib.hid hl; have HMU := Lib.hid hmu; clear hs hl hmu hb4 HA3 c0 HG HP)
 go_upto_region 7 with (fail)
 refine wp_region_ghost (by kernel_rfl) 46 rfl 14 (AfV s ns z0 z1 z2 z3 sv) (AfR w s ns z0 z1 z2 z3 m loc u sv) ⟨false, none⟩ (by kernel_rfl) (by kernel_rfl) (by kernel_rfl) (by kernel_rfl) (by kernel_rfl) ?_ ?_ ?_
 ·exact (show AfR w s ns z0 z1 z2 z3 m loc u sv ⟨false, none⟩ (fun _ => False) w4 from ⟨HA4.out.below, fun _ => ⟨HA4.out, HS.out, HLO.out⟩, fun e => (by cases e), ⟨fun e => (by cases e), fun e => e.elim⟩, fun r e => (by cases e)⟩).goes (Below.refl _ _).drew
 ·refine ⟨fun _ γ a w1 L hs' hA hnL hd hcl hO => ?_, fun _ γ a w1 L hs' hA hnL hd hcl hO => ?_, fun _ γ a w1 L hs' hA hnL hd hcl hO => ?_, fun _ γ a w1 L hs' hA hnL hd hcl hO => ?_, fun _ γ a w1 L hs' hA hnL hd hcl hO => ?_, fun _ γ a w1 L hs' hA hnL hd hcl hO => ?_, fun _ γ a w1 L hs' hA hnL hd hcl hO => ?_, fun _ γ a w1 L hs' hA hnL hd hcl hO => ?_, fun _ γ a w1 L hs' hA hnL hd hcl hO => ?_, fun _ γ a w1 L hs' hA hnL hd hcl hO => ?_, fun _ γ a w1 L hs' hA hnL hd hcl hO => ?_, fun _ γ a w1 L hs' hA hnL hd hcl hO => ?_, fun _ γ a w1 L hs' hA hnL hd hcl hO => ?_, fun _ γ a w1 L hs' hA hnL hd hcl hO => ?_, fun h => absurd rfl h, trivial⟩
  ·have e13 : a.tmps.getD 13 undef = sv := hA.old' 13
   clear hA
   refine Region.StepG.pure (X := sv) rfl ?_ rfl (hs'.other (by decide))
   go_simp
  ·have e6 : a.tmps.getD 6 undef = .pointer (some ⟨w.heap.size, 0, none⟩) := hA.old' 6
   have hnd : γ.done = false := by
    cases h : γ.done with
    | false => rfl
    | true => exact absurd (hcl 13 (hs'.done.1 h) 1 (by decide)) hnL
   have c0 : w1.cell? ⟨w.heap.size, 0, none⟩ = some (.int .i64 s) := blk_cell (hs'.ahead hnd).1.inst 0
   have c1 : w1.cell? ⟨w.heap.size, 1, none⟩ = some (.int .i64 ns) := blk_cell (hs'.ahead hnd).1.inst 1
   have hu23 := Tryz.underlying23
   clear hA
   refine Region.StepG.pure (X := .agg #[.int .i64 s, .int .i64 ns]) rfl ?_ rfl (hs'.other (by decide))
   go_simp
  ·have e7 : a.tmps.getD 7 undef = .pointer (some ⟨w.heap.size + 1, 0, none⟩) := hA.old' 7
   have hnd : γ.done = false := by
    cases h : γ.done with
    | false => rfl
    | true => exact absurd (hcl 13 (hs'.done.1 h) 2 (by decide)) hnL
   have c0 : w1.cell? ⟨w.heap.size + 1, 0, none⟩ = some z0 := blk_cell (hs'.ahead hnd).1.zone 0
   have c1 : w1.cell? ⟨w.heap.size + 1, 1, none⟩ = some z1 := blk_cell (hs'.ahead hnd).1.zone 1
   have c2 : w1.cell? ⟨w.heap.size + 1, 2, none⟩ = some z2 := blk_cell (hs'.ahead hnd).1.zone 2
   have c3 : w1.cell? ⟨w.heap.size + 1, 3, none⟩ = some z3 := blk_cell (hs'.ahead hnd).1.zone 3
   have hu28 := Tryz.underlying28
   clear hA
   refine Region.StepG.pure (X := .agg #[z0, z1, z2, z3]) rfl ?_ rfl (hs'.other (by decide))
   go_simp
  ·have e34 : a.tmps.getD 34 undef = .agg #[z0, z1, z2, z3] := hA.gotL hd 2 34
   clear hA
   show Oper.wp _ _ _ _ _ _
   go_simp
   refine (HZ.out w1 hs'.below).mono ?_
   rintro r w5 ⟨o1, lv, rfl, horg, hb⟩
   exact ⟨_, rfl, γ, fun _ => ⟨o1, lv, rfl, horg⟩, (hs'.goes hb).other (by decide), fun j t _ _ h => AfV.keep hb h⟩
  ·have e33 : a.tmps.getD 33 undef = .agg #[.int .i64 s, .int .i64 ns] := hA.gotL hd 1 33
   have hnd : γ.done = false := by
    cases h : γ.done with
    | false => rfl
    | true => exact absurd (hcl 13 (hs'.done.1 h) 4 (by decide)) hnL
   obtain ⟨o1, lv, e35, horg⟩ := (hA.gotL hd 3 35 : AfV s ns z0 z1 z2 z3 sv γ 3 _ w1) hnd
   clear hA
   rcases horg with ⟨hu, rfl⟩ | ⟨hlt, hc, rfl⟩
   ·show Oper.wp _ _ _ _ _ _
    go_simp
    refine (moment_utc s ns n0 n1 (by omega) (by omega) o1 w1 hu).mono ?_
    rintro r w5 ⟨rfl, hb⟩
    exact ⟨_, rfl, γ, fun _ => ⟨o1, _, rfl, .inl ⟨hu.below hb, rfl⟩⟩, (hs'.goes hb).other (by decide), fun j t _ _ h => AfV.keep hb h⟩
   ·show Oper.wp _ _ _ _ _ _
    go_simp
    refine (moment_zone s ns n0 n1 (by omega) (by omega) o1 w1 hlt hc).mono ?_
    rintro r w5 ⟨rfl, hb⟩
    exact ⟨_, rfl, γ, fun _ => ⟨o1, _, rfl, Org.below (.inr ⟨hlt, hc, rfl⟩) hb⟩, (hs'.goes hb).other (by decide), fun j t _ _ h => AfV.keep hb h⟩
  ·have e32 : a.tmps.getD 32 undef = sv := hA.gotL hd 0 32
   have hmf : ∀ (fn : Fn) (first cap : Array Value) (w : World), (Instr.makeFunc fn first cap).run Tryz.prog w = .ok (.func fn first cap) w := fun _ _ _ _ => rfl
   clear hA
   refine Region.StepG.pure (X := .func (.method "Next") #[sv] #[]) rfl ?_ rfl (hs'.other (by decide))
   go_simp
  ·have e37 : a.tmps.getD 37 undef = .func (.method "Next") #[sv] #[] := hA.gotL hd 5 37
   have hnd : γ.done = false := by
    cases h : γ.done with
    | false => rfl
    | true => exact absurd (hcl 13 (hs'.done.1 h) 6 (by decide)) hnL
   clear hA
   rcases (hs'.ahead hnd).2.1 with ⟨hev, b, k0, k1, k2, k3, k4, k5, rfl, hspec, f0, f1, f2, f3, f4, f5⟩ | ⟨hev, rfl⟩
   ·have hna : ∀ W : World, (nilAhead 435 126 (.pointer (some ⟨b, 0, none⟩)) "Next").run Tryz.prog W = .ok (some false) W := fun _ => by kernel_rfl
    refine Region.StepG.pure (X := .func (.method "Next") #[.iface 126 (.pointer (some ⟨b, 0, none⟩))] #[]) rfl ?_ trivial (hs'.other (by decide))
    go_simp
   ·have hna : ∀ W : World, (nilAhead 435 144 (.agg #[.int .i64 m.delay]) "Next").run Tryz.prog W = .ok (some false) W := fun _ => by kernel_rfl
    refine Region.StepG.pure (X := .func (.method "Next") #[.iface 144 (.agg #[.int .i64 m.delay])] #[]) rfl ?_ trivial (hs'.other (by decide))
    go_simp
  ·have e32 : a.tmps.getD 32 undef = sv := hA.gotL hd 0 32
   clear hA
   refine Region.StepG.pure (X := sv) rfl ?_ rfl (hs'.other (by decide))
   go_simp
  ·have e39 : a.tmps.getD 39 undef = sv := hA.gotL hd 7 39
   have hnd : γ.done = false := by
    cases h : γ.done with
    | false => rfl
    | true => exact absurd (hcl 13 (hs'.done.1 h) 8 (by decide)) hnL
   obtain ⟨o1, lv, e36, horg⟩ := (hA.gotL hd 4 36 : AfV s ns z0 z1 z2 z3 sv γ 4 _ w1) hnd
   have hrn : γ.r = none := by
    cases h : γ.r with
    | none => rfl
    | some r => exact absurd (hs'.r r h).2 hnL
   clear hA
   rcases (hs'.ahead hnd).2.1 with ⟨hev, b, k0, k1, k2, k3, k4, k5, rfl, hspec, f0, f1, f2, f3, f4, f5⟩ | ⟨hev, rfl⟩
   ·have hm : ∀ w : World, (method 435 126 (.pointer (some ⟨b, 0, none⟩)) "Next").run Tryz.prog w = .ok (202, .pointer (some ⟨b, 0, none⟩)) w := fun _ => by kernel_rfl
    show Oper.wp _ _ _ _ _ _
    go_simp
    refine (next_c b lv k0 k1 k2 k3 k4 k5 loc ns s n0 n1 h0 (by omega) w1 hspec horg.place ?_).mono ?_
    ·rcases (hs'.ahead hnd).2.2 with ⟨hu1, u', hu2, hu3⟩ | ⟨hu1, hu2⟩
     ·exact .inr ⟨u', hu2, hu3⟩
     ·have := (HMU.out hev).trans hu1
      rw [HU.out hev] at this; cases this
    ·rintro r w5 ⟨⟨x, hx, rfl⟩, hb⟩
     obtain ⟨p, hp⟩ := horg.ptr
     have hnx : NxR m s x := .inr ⟨hev, Ans_congr (fits_same f0 f1 f2 f3 f4 f5) hx⟩
     refine ⟨_, rfl, ⟨γ.done, some x⟩, ?_, hs'.answer hb hrn hnx, fun j t hj _ h => AfV.answer hb hrn hj hnL h⟩
     cases x with
     | none => exact ⟨none, none, rfl, rfl⟩
     | some x => exact ⟨some x, p, rfl, by rw [hp]⟩
   ·have hm : ∀ w : World, (method 435 144 (.agg #[.int .i64 m.delay]) "Next").run Tryz.prog w = .ok (235, .agg #[.int .i64 m.delay]) w := fun _ => by kernel_rfl
    show Oper.wp _ _ _ _ _ _
    go_simp
    obtain ⟨k, hk, hk1, hk2⟩ := HDL.out hev
    obtain ⟨p, rfl⟩ := horg.ptr
    have HC := delayNext_c k ns (s + 62135596800) (.pointer p) ⟨p, rfl⟩ n0 n1 hk1 (by omega) (by omega) (by omega) w1
    rw [← hk] at HC
    refine HC.mono ?_
    rintro r w5 ⟨rfl, hb⟩
    have hnx : NxR m s (some (s + k)) := .inl ⟨hev, by rw [hk, Int.mul_ediv_cancel _ (by decide)]⟩
    refine ⟨_, rfl, ⟨γ.done, some (some (s + k))⟩, ⟨some (s + k), p, rfl, ?_⟩, hs'.answer hb hrn hnx, fun j t hj _ h => AfV.answer hb hrn hj hnL h⟩
    show tm 0 (s + 62135596800 + k) (.pointer p) = tm 0 (s + k + 62135596800) (.pointer p)
    rw [show s + 62135596800 + k = s + k + 62135596800 by omega]
  ·obtain ⟨r, p, hr, e40⟩ := hA.gotL hd 8 40
   have hbd := fun x (h : r = some x) => (hs'.r r hr).1
   clear hA
   show Oper.wp _ _ _ _ _ _
   cases r with
   | none =>
    go_simp
    refine (answer_none _ ⟨p, rfl⟩ w1).mono ?_
    rintro r w5 ⟨rfl, hb⟩
    exact ⟨_, rfl, γ, ⟨none, hr, rfl⟩, (hs'.goes hb).other (by decide), fun j t _ _ h => AfV.keep hb h⟩
   | some x =>
    have hx := (hbd x rfl).bound HDL.out
    go_simp
    refine (answer_some 0 (x + 62135596800) _ ⟨p, rfl⟩ (by decide) (by decide) (by omega) (by omega) w1).mono ?_
    rintro r w5 ⟨rfl, hb⟩
    refine ⟨_, rfl, γ, ⟨some x, hr, ?_⟩, (hs'.goes hb).other (by decide), fun j t _ _ h => AfV.keep hb h⟩
    rw [show x + 62135596800 - 62135596800 = x by omega]; rfl
  ·obtain ⟨r, hr, e41⟩ := hA.gotL hd 9 41
   clear hA
   refine Region.StepG.pure (X := .tuple #[.agg #[.int .i64 (r.getD 0), .int .i64 0], .bool r.isSome]) rfl ?_ ⟨r, hr, rfl⟩ (hs'.other (by decide))
   go_simp
  ·obtain ⟨r, hr, e31⟩ := hA.gotL hd 10 31
   clear hA
   refine Region.StepG.pure (X := .agg #[.int .i64 (r.getD 0), .int .i64 0]) rfl ?_ ⟨r, hr, rfl⟩ (hs'.other (by decide))
   go_simp
  ·obtain ⟨r, hr, e31⟩ := hA.gotL hd 10 31
   clear hA
   refine Region.StepG.pure (X := .bool r.isSome) rfl ?_ ⟨r, hr, rfl⟩ (hs'.other (by decide))
   go_simp
  ·have e8 : a.tmps.getD 8 undef = .pointer (some ⟨w.heap.size + 2, 0, none⟩) := hA.old' 8
   obtain ⟨r, hr, e42⟩ := hA.gotL hd 11 42
   have hnd : γ.done = false := by
    cases h : γ.done with
    | false => rfl
    | true => exact absurd (hs'.done.1 h) hnL
   have hres := (hs'.ahead hnd).1.res
   have c0 : w1.cell? ⟨w.heap.size + 2, 0, none⟩ = some (.int .i64 0) := blk_cell hres 0
   have c1 : w1.cell? ⟨w.heap.size + 2, 1, none⟩ = some (.int .i64 0) := blk_cell hres 1
   have d0 : w1.frozen? ⟨w.heap.size + 2, 0, none⟩ = false := blk_frozen hres 0
   have d1 : w1.frozen? ⟨w.heap.size + 2, 1, none⟩ = false := blk_frozen hres 1
   have hu23 := Tryz.underlying23
   clear hA
   show Oper.wp _ _ _ _ _ _
   go_simp
   have q0 := blk_put hres 0 (.int .i64 (r.getD 0)) (cs' := #[.int .i64 (r.getD 0), .int .i64 0]) rfl
   have q1 := blk_put q0 1 (.int .i64 0) (cs' := #[.int .i64 (r.getD 0), .int .i64 0]) rfl
   refine ⟨undef, ⟨true, γ.r⟩, trivial, ⟨below_set (below_set hs'.below (by simp)) (by simp), fun e => (by cases e), fun _ => ⟨r, hr, q1⟩, ⟨fun _ => .inl rfl, fun _ => rfl⟩, fun r hr => ⟨(hs'.r r hr).1, .inr (hs'.r r hr).2⟩⟩, fun j t _ _ h => ?_⟩
   match j, h with
   | 0, h => exact h
   | 1, h => exact h
   | 2, h => exact h
   | 3, h => exact fun e => (by cases e)
   | 4, h => exact fun e => (by cases e)
   | 5, h => exact h
   | 6, h => exact h
   | 7, h => exact h
   | 8, h => exact h
   | 9, h => exact h
   | 10, h => exact h
   | 11, h => exact h
   | 12, h => exact h
   | n + 13, h => exact h
 ·intro γ a w5 L hs' hall hO hA
  obtain ⟨r, hr, hblk⟩ := hs'.behind (hs'.done.2 (hall 13 (by decide) (by decide)))
  have hbel := hs'.below
  have hnx := (hs'.r r hr).1
  have one : ∀ (X : Option Int → Value) (v : Value), (∃ r, γ.r = some r ∧ v = X r) → v = X r := fun X v h => by
   obtain ⟨r', h1, h2⟩ := h
   rw [hr] at h1; cases h1; exact h2
  obtain ⟨x35, e35⟩ : ∃ x, a.tmps.getD 35 undef = x := ⟨_, rfl⟩
  obtain ⟨x36, e36⟩ : ∃ x, a.tmps.getD 36 undef = x := ⟨_, rfl⟩
  obtain ⟨x38, e38⟩ : ∃ x, a.tmps.getD 38 undef = x := ⟨_, rfl⟩
  obtain ⟨x40, e40⟩ : ∃ x, a.tmps.getD 40 undef = x := ⟨_, rfl⟩
  obtain rfl := hA.frame [(32, sv), (33, .agg #[.int .i64 s, .int .i64 ns]), (34, .agg #[z0, z1, z2, z3]), (35, x35), (36, x36), (37, .func (.method "Next") #[sv] #[]), (38, x38), (39, sv), (40, x40), (41, .tuple #[.agg #[.int .i64 (r.getD 0), .int .i64 0], .bool r.isSome]), (31, .tuple #[.agg #[.int .i64 (r.getD 0), .int .i64 0], .bool r.isSome]), (42, .agg #[.int .i64 (r.getD 0), .int .i64 0]), (43, .bool r.isSome), (9, .bool false)] (by
   intro p hp
   simp only [List.mem_cons, List.not_mem_nil, or_false] at hp
   rcases hp with rfl | rfl | rfl | rfl | rfl | rfl | rfl | rfl | rfl | rfl | rfl | rfl | rfl | rfl
   ·exact hA.end' 0 32
   ·exact hA.end' 1 33
   ·exact hA.end' 2 34
   ·exact e35
   ·exact e36
   ·exact hA.end' 5 37
   ·exact e38
   ·exact hA.end' 7 39
   ·exact e40
   ·exact one (fun r => .tuple #[.agg #[.int .i64 (r.getD 0), .int .i64 0], .bool r.isSome]) _ (hA.end' 9 41)
   ·exact one (fun r => .tuple #[.agg #[.int .i64 (r.getD 0), .int .i64 0], .bool r.isSome]) _ (hA.end' 10 31)
   ·exact one (fun r => .agg #[.int .i64 (r.getD 0), .int .i64 0]) _ (hA.end' 11 42)
   ·exact one (fun r => .bool r.isSome) _ (hA.end' 12 43)
   ·exact hO 9 (Region.not_at (by kernel_rfl))) (by kernel_rfl)
  clear hA hO hs' hall one e35 e36 e38 e40 hr
  simp only [List.foldl_cons, List.foldl_nil]
  simp only [List.setIfInBounds_toArray, List.set_cons_zero, List.set_cons_succ]
  have c0 : w5.cell? ⟨w.heap.size + 2, 0, none⟩ = some (.int .i64 (r.getD 0)) := blk_cell hblk 0
  have c1 : w5.cell? ⟨w.heap.size + 2, 1, none⟩ = some (.int .i64 0) := blk_cell hblk 1
  have d0 : w5.frozen? ⟨w.heap.size + 2, 0, none⟩ = false := blk_frozen hblk 0
  have d1 : w5.frozen? ⟨w.heap.size + 2, 1, none⟩ = false := blk_frozen hblk 1
  have hu23 := Tryz.underlying23
  show Oper.wp _ _ _ _ _ _
  go_wp2
  have q0 := blk_put hblk 0 (.int .i64 (r.getD 0)) (cs' := #[.int .i64 (r.getD 0), .int .i64 0]) rfl
  have q1 := blk_put q0 1 (.int .i64 0) (cs' := #[.int .i64 (r.getD 0), .int .i64 0]) rfl
  have hB : Below w.heap.size w ((w5.setCell ⟨w.heap.size + 2, 0, none⟩ (.int .i64 (r.getD 0))).setCell ⟨w.heap.size + 2, 1, none⟩ (.int .i64 0)) := below_set (below_set hbel (by simp)) (by simp)
  have p0 := blk_cell q1 0
  have p1 := blk_cell q1 1
  have r0 := blk_frozen q1 0
  have r1 := blk_frozen q1 1
  change bodyPost Tryz.prog _ _ _ _ ((w5.setCell ⟨w.heap.size + 2, 0, none⟩ (.int .i64 (r.getD 0))).setCell ⟨w.heap.size + 2, 1, none⟩ (.int .i64 0))
  clear c0 c1 d0 d1 hbel hblk q0 q1
  generalize (w5.setCell ⟨w.heap.size + 2, 0, none⟩ (.int .i64 (r.getD 0))).setCell ⟨w.heap.size + 2, 1, none⟩ (.int .i64 0) = W6 at *
  refine bodyPost_ret (v := .tuple #[.agg #[.int .i64 (r.getD 0), .int .i64 0], .bool r.isSome, .bool true]) (by simp [results, Tryz.f11, go_sem, hu23, p0, p1, r0, r1]) rfl ?_
  exact ⟨⟨r, hnx, rfl⟩, hB⟩
end Go.Proofs.YtcjdideliifkhaaGreatDoor
