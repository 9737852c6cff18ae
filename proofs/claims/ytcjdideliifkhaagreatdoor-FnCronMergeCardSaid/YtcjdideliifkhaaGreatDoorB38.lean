import Derived.Defers
import Derived.Recover
import Derived.Test.YtcjdideliifkhaaGreatDoorB37
set_option maxRecDepth 100000
set_option maxHeartbeats 16000000
namespace Go.Proofs.YtcjdideliifkhaaGreatDoor
open Go.RowKit Go.Maps Go.Proofs.YtcjdideliifkhaaGreatDoorW.PrintWords Go.Proofs.YtcjdideliifkhaaGreatDoorW.PrintLast Go.Proofs.YtcjdideliifkhaaGreatDoorW.PrintMore PFnCronTextAfterAnywhere
set_option linter.unusedVariables false
set_option linter.unusedSimpArgs false
theorem two_cases : ((List.range 512).all fun o => (spec_CronTwoOptional.f (o : Int)) != some false || (decide (0 < Go.bits .and .i64 (o : Int) 128) == false || decide (0 < Go.bits .and .i64 (o : Int) 2) == false)) = true := by kernel_rfl
theorem two_case (o : Nat) (ho : o < 512) (h2 : spec_CronTwoOptional.f (o : Int) = some false) : decide (0 < Go.bits .and .i64 (o : Int) 128) = false ∨ decide (0 < Go.bits .and .i64 (o : Int) 2) = false := by
 have := List.all_eq_true.1 two_cases o (List.mem_range.2 ho)
 rw [h2] at this
 simpa using this
theorem newParser_c (o : Nat) (ho : o < 512) (h2 : spec_CronTwoOptional.f (o : Int) = some false) (w : World) :
  Calls Tryz.prog 48 #[.int .i64 (o : Int)] w fun e w' => e = .returned (.agg #[.int .i64 (o : Int)]) ∧ Below w.heap.size w w' := by
 obtain ⟨b1, hb1⟩ : ∃ b, decide (0 < Go.bits .and .i64 (o : Int) 128) = b := ⟨_, rfl⟩
 obtain ⟨b2, hb2⟩ : ∃ b, decide (0 < Go.bits .and .i64 (o : Int) 2) = b := ⟨_, rfl⟩
 have h := two_case o ho h2
 rw [hb1, hb2] at h
 have hu78 := Tryz.underlying78
 clear h2
 rcases h with rfl | rfl
 ·cases b2
  all_goals
   go_enter Tryz.func48, Tryz.ntmps48
   go_wp2
   refine bodyPost_ret (results_cell_row rfl _ _ w.heap.size 78 #[.int .i64 (o : Int)] (0, 0) _ rfl (blk_new w _) Tryz.underlying78 rfl (by kernel_rfl)) rfl ?_
   exact ⟨rfl, below_alloc (Below.refl _ _) _⟩
 ·cases b1
  all_goals
   go_enter Tryz.func48, Tryz.ntmps48
   go_wp2
   refine bodyPost_ret (results_cell_row rfl _ _ w.heap.size 78 #[.int .i64 (o : Int)] (0, 0) _ rfl (blk_new w _) Tryz.underlying78 rfl (by kernel_rfl)) rfl ?_
   exact ⟨rfl, below_alloc (Below.refl _ _) _⟩
theorem pow_and_pos (N k : Nat) : decide ((0 : Int) < ((2 ^ k &&& N : Nat) : Int)) = N.testBit k := by
 cases h : N.testBit k with
 | true =>
  have h1 : (2 ^ k &&& N).testBit k = true := by rw [Nat.testBit_and, h, Nat.testBit_two_pow]; simp
  have h2 : 2 ^ k &&& N ≠ 0 := fun e => by rw [e, Nat.zero_testBit] at h1; cases h1
  simp; omega
 | false =>
  have h2 : 2 ^ k &&& N = 0 := Nat.eq_of_testBit_eq fun i => by
   rw [Nat.testBit_and, Nat.zero_testBit, Nat.testBit_two_pow]
   by_cases e : k = i
   ·subst e; rw [h, Bool.and_false]
   ·simp [e]
  rw [h2]; rfl
theorem hasBit_of {N : Nat} {t : CSet} (h : BitsOf N t) (k : Int) (h0 : 0 ≤ k) (h1 : k < 63) : hasBit (N : Int) k = t.has k.toNat := by
 unfold hasBit bitOf
 have hp : 2 ^ k.toNat < 2 ^ 64 := Nat.pow_lt_pow_right (by decide) (by omega)
 have hw : IntKind.u64.wrap ((2 : Int) ^ k.toNat) = ((2 ^ k.toNat : Nat) : Int) := by
  have e : ((2 : Int) ^ k.toNat) = ((2 ^ k.toNat : Nat) : Int) := by simp
  rw [e, wraps_u64 _ (Int.natCast_nonneg _) (by exact_mod_cast hp)]
 rw [hw, (bits_nat .u64 64 (by decide) wraps_u64 _ N hp h.1).1, pow_and_pos]
 exact h.2.1 _ (by omega)
theorem hasStar_of {N : Nat} {t : CSet} (h : BitsOf N t) : hasStar (N : Int) = t.star := by
 unfold hasStar
 have e : (9223372036854775808 : Int) = ((2 ^ 63 : Nat) : Int) := by decide
 rw [e, (bits_nat .u64 64 (by decide) wraps_u64 N (2 ^ 63) h.1 (by decide)).1, Nat.and_comm, pow_and_pos]
 exact h.2.2
theorem fits_same {n0 n1 n2 n3 n4 n5 : Nat} {F : CF} (h0 : BitsOf n0 (F 0)) (h1 : BitsOf n1 (F 1)) (h2 : BitsOf n2 (F 2)) (h3 : BitsOf n3 (F 3)) (h4 : BitsOf n4 (F 4)) (h5 : BitsOf n5 (F 5)) (u : Int) :
  Cal.fits (fOf n0 n1 n2 n3 n4 n5) u = Cal.fits (fF F) u := by
 obtain ⟨a1, a2, a3, a4⟩ := Cal.date_valid (u / 86400)
 have a5 := (Cal.mdays_pos (Cal.Y (u / 86400)) (Cal.M (u / 86400))).2
 have a6 : 0 ≤ Cal.W (u / 86400) ∧ Cal.W (u / 86400) < 7 := by unfold Cal.W; omega
 have b4 := hasBit_of h4 (Cal.M (u / 86400)) (by omega) (by omega)
 have b3 := hasBit_of h3 (Cal.D (u / 86400)) (by omega) (by omega)
 have b5 := hasBit_of h5 (Cal.W (u / 86400)) (by omega) (by omega)
 have b2 := hasBit_of h2 (u % 86400 / 3600) (by omega) (by omega)
 have b1 := hasBit_of h1 (u % 3600 / 60) (by omega) (by omega)
 have b0 := hasBit_of h0 (u % 60) (by omega) (by omega)
 have s3 := hasStar_of h3
 have s5 := hasStar_of h5
 unfold Cal.fits Cal.dayFits fOf fF
 simp only [b0, b1, b2, b3, b4, b5, s3, s5]
theorem Ans_congr {f f' : Cal.F} (h : ∀ u, Cal.fits f u = Cal.fits f' u) {a b : Int} {v : Option Int} (hv : Cal.Ans f a b v) : Cal.Ans f' a b v := by
 cases v with
 | none => intro u h1 h2; rw [← h]; exact hv u h1 h2
 | some v =>
  obtain ⟨h1, h2, h3, h4⟩ := hv
  exact ⟨h1, by rw [← h]; exact h2, h3, fun u a b => by rw [← h]; exact h4 u a b⟩
theorem ans_bound {f : Cal.F} {s v : Int} (h : Cal.Ans f (s + 1) (Cal.Y ((s + 1) / 86400) + 5) (some v)) : s + 1 ≤ v ∧ v ≤ s + 300000000 := by
 obtain ⟨h1, _, h3, _⟩ := h
 obtain ⟨y1, y2⟩ := Cal.Y_bounds ((s + 1) / 86400)
 obtain ⟨z1, z2⟩ := Cal.Y_bounds (v / 86400)
 refine ⟨h1, ?_⟩
 have key : Cal.ys (Cal.Y (v / 86400) + 1) ≤ Cal.ys (Cal.Y ((s + 1) / 86400) + 6) := by
  by_cases e : Cal.Y (v / 86400) + 1 = Cal.Y ((s + 1) / 86400) + 6
  ·rw [e]; exact Int.le_refl _
  ·have := Cal.ys_lt (y := Cal.Y (v / 86400) + 1) (y' := Cal.Y ((s + 1) / 86400) + 6) (by omega)
   split at this <;> omega
 have h6 : Cal.ys (Cal.Y ((s + 1) / 86400) + 6) ≤ Cal.ys (Cal.Y ((s + 1) / 86400)) + 2300 := by
  generalize Cal.Y ((s + 1) / 86400) = y at *
  unfold Cal.ys; omega
 generalize Cal.ys (Cal.Y (v / 86400) + 1) = p1 at *
 generalize Cal.ys (Cal.Y ((s + 1) / 86400) + 6) = p2 at *
 generalize Cal.ys (Cal.Y ((s + 1) / 86400)) = p3 at *
 clear h3 z1
 omega
def NxR (m : CMean) (s : Int) (v : Option Int) : Prop :=
 (m.every = true ∧ v = some (s + m.delay / 1000000000)) ∨ (m.every = false ∧ Cal.Ans (fF m.F) (s + 1) (Cal.Y ((s + 1) / 86400) + 5) v)
theorem NxR.unique {m : CMean} {s : Int} {v v' : Option Int} (h : NxR m s v) (h' : NxR m s v') : v = v' := by
 rcases h with ⟨h1, rfl⟩ | ⟨h1, h2⟩
 ·rcases h' with ⟨_, rfl⟩ | ⟨h3, _⟩
  ·rfl
  ·rw [h1] at h3; cases h3
 ·rcases h' with ⟨h3, _⟩ | ⟨_, h4⟩
  ·rw [h1] at h3; cases h3
  ·exact h2.unique h4
def DelOk (m : CMean) : Prop := m.every = true → ∃ k : Int, m.delay = k * 1000000000 ∧ 1 ≤ k ∧ k ≤ 4611686019
theorem NxR.bound {m : CMean} {s v : Int} (hd : DelOk m) (h : NxR m s (some v)) : s + 1 ≤ v ∧ v ≤ s + 4611686019 := by
 rcases h with ⟨h1, h2⟩ | ⟨h1, h2⟩
 ·obtain ⟨k, hk, k1, k2⟩ := hd h1
  injection h2 with h2
  rw [hk] at h2
  omega
 ·have := ans_bound h2; omega
theorem delayL_ok (d : Int) (h : d ≤ 4611686018427387904) : ∃ k : Int, delayL d = k * 1000000000 ∧ 1 ≤ k ∧ k ≤ 4611686019 := by
 unfold delayL
 split
 ·exact ⟨1, rfl, by decide, by decide⟩
 ·exact ⟨d / 1000000000, rfl, by omega, by omega⟩
theorem plain_delay {o : Int} {l : Txt} {m : CMean} (h : PlainR o l m) : DelOk m := by
 rcases h with ⟨_, h⟩ | ⟨_, _, h⟩
 ·obtain ⟨_, _, _, _, _, h, _⟩ := h; intro e; rw [h] at e; cases e
 ·rcases h with ⟨_, h⟩ | ⟨_, _, d, h, rfl⟩
  ·obtain ⟨_, _, _, _, _, h, _⟩ := h; intro e; rw [h] at e; cases e
  ·exact fun _ => delayL_ok d (DurR_le h)
theorem parse_delay {o : Int} {l : Txt} {m : CMean} (h : ParseR o l m) : DelOk m := by
 rcases h with ⟨_, _, h⟩ | ⟨_, _, _, _, m0, _, _, _, _, h, rfl⟩
 ·exact plain_delay h
 ·intro e
  have h' := plain_delay h
  exact h' e
theorem SchedR.below {w w' : World} {m : CMean} {loc : Option Addr} {v : Value} (h : SchedR w m loc v) (hb : Below w.heap.size w w') : SchedR w' m loc v := by
 rcases h with ⟨h1, b, n0, n1, n2, n3, n4, n5, rfl, h2, h3⟩ | h
 ·exact .inl ⟨h1, b, n0, n1, n2, n3, n4, n5, rfl, h2.below hb, h3⟩
 ·exact .inr h
theorem cronUTC_c (w : World) :
  Calls Tryz.prog 13 #[] w fun e w' => e = .returned zUTC ∧ Below w.heap.size w w' := by
 go_enter Tryz.func13, Tryz.ntmps13
 go_wp2
 refine bodyPost_ret (results_cell_row rfl _ _ w.heap.size 28 #[.slice none 0 0, .slice none 0 0, .slice none 0 0, .slice none 0 0] (0, 0) _ rfl (blk_new w _) Tryz.underlying28 rfl (by kernel_rfl)) rfl ?_
 exact ⟨rfl, below_alloc (Below.refl _ _) _⟩
theorem good_c (s ns : Int) : ∃ r : Bool, (r = true → -62135596800 ≤ s ∧ s ≤ 253402300799 ∧ 0 ≤ ns ∧ ns < 1000000000) ∧ ∀ w, Calls Tryz.prog 7 #[.agg #[.int .i64 s, .int .i64 ns]] w fun e w' => e = .returned (.bool r) ∧ Below w.heap.size w w' := by
 obtain ⟨b1, h1⟩ : ∃ b, decide (-62135596800 ≤ s) = b := ⟨_, rfl⟩
 obtain ⟨b2, h2⟩ : ∃ b, decide (s ≤ 253402300799) = b := ⟨_, rfl⟩
 obtain ⟨b3, h3⟩ : ∃ b, decide (0 ≤ ns) = b := ⟨_, rfl⟩
 obtain ⟨b4, h4⟩ : ∃ b, decide (ns < 1000000000) = b := ⟨_, rfl⟩
 refine ⟨b1 && b2 && b3 && b4, fun e => ?_, fun w => ?_⟩
 ·rw [← h1, ← h2, ← h3, ← h4] at e; simp at e; omega
 have hu23 := Tryz.underlying23
 have HB := Lib.hid (below_alloc (Below.refl w.heap.size w) (.cells #[.int .i64 s, .int .i64 ns] 23))
 cases b1 <;> cases b2 <;> cases b3 <;> cases b4
 all_goals
  go_enter Tryz.func7, Tryz.ntmps7
  go_wp2
  go_ret
  exact ⟨rfl, HB.out⟩
def lwT (r : Option Int) : Value := .tuple #[.agg #[.int .i64 (r.getD 0), .int .i64 0], .bool r.isSome]
theorem after_c (m : CMean) (hd : DelOk m) (s ns : Int) (h0 : -62135596800 ≤ s) (h1 : s ≤ 700000000000) (w : World) :
  Calls Tryz.prog 12 #[.agg m.cells.toArray, .agg #[.int .i64 s, .int .i64 ns], zUTC] w fun e w' => (∃ r, NxR m s r ∧ e = .returned (lwT r)) ∧ Below w.heap.size w w' := by
 obtain ⟨e, d, F, u⟩ := m
 cases e with
 | false =>
  refine (after_sets F d u s ns h0 h1 w).mono ?_
  rintro e w' ⟨⟨v, h2, rfl⟩, hb⟩
  exact ⟨⟨v, .inr ⟨rfl, h2⟩, rfl⟩, hb⟩
 | true =>
  obtain ⟨k, hk, k1, k2⟩ := hd rfl
  have hk' : d = k * 1000000000 := hk
  refine (after_every F d u s ns h0 h1 (by omega) (by omega) w).mono ?_
  rintro e w' ⟨rfl, hb⟩
  exact ⟨⟨_, .inl ⟨rfl, rfl⟩, rfl⟩, hb⟩
end Go.Proofs.YtcjdideliifkhaaGreatDoor
namespace Go.Proofs.YtcjdideliifkhaaGreatDoor.Mrg
abbrev Sts := Nat → Option Int
def upd (x : Sts) (i : Nat) (v : Option Int) : Sts := fun j => if j = i then v else x j
def ltO : Option Int → Option Int → Bool
 | none, _ => false
 | some _, none => true
 | some a, some b => decide (a < b)
def leastL (x : Sts) : Nat → Option Nat
 | 0 => none
 | k + 1 => match leastL x k with
  | none => if (x k).isSome then some k else none
  | some l => if ltO (x k) (x l) then some k else some l
theorem leastL_none {x : Sts} : ∀ {k : Nat}, leastL x k = none → ∀ i, i < k → x i = none := by
 intro k
 induction k with
 | zero => intro _ i hi; omega
 | succ k ih =>
  intro h i hi
  unfold leastL at h
  cases hl : leastL x k with
  | none =>
   rw [hl] at h
   simp only [ite_eq_right_iff] at h
   by_cases e : i = k
   ·subst e
    cases hx : x i with
    | none => rfl
    | some v => rw [hx] at h; exact absurd (h rfl) (by simp)
   ·exact ih hl i (by omega)
  | some l => rw [hl] at h; simp only at h; split at h <;> cases h
theorem leastL_some {x : Sts} : ∀ {k l : Nat}, leastL x k = some l → l < k ∧ ∃ T, x l = some T ∧ ∀ i, i < k → ∀ v, x i = some v → T ≤ v := by
 intro k
 induction k with
 | zero => intro l h; cases h
 | succ k ih =>
  intro l h
  unfold leastL at h
  cases hl : leastL x k with
  | none =>
   rw [hl] at h
   simp only at h
   split at h
   ·rename_i hs
    cases h
    obtain ⟨T, hT⟩ := Option.isSome_iff_exists.1 hs
    refine ⟨Nat.lt_succ_self _, T, hT, fun i hi v hv => ?_⟩
    by_cases e : i = k
    ·subst e; rw [hT] at hv; cases hv; exact Int.le_refl _
    ·rw [leastL_none hl i (by omega)] at hv; cases hv
   ·cases h
  | some m =>
   rw [hl] at h
   simp only at h
   obtain ⟨hm, T, hT, hmin⟩ := ih hl
   split at h
   ·rename_i hlt
    cases h
    cases hk : x k with
    | none => rw [hk] at hlt; cases hlt
    | some a =>
     rw [hk, hT] at hlt
     have hlt' : a < T := by simpa [ltO] using hlt
     refine ⟨Nat.lt_succ_self _, a, rfl, fun i hi v hv => ?_⟩
     by_cases e : i = k
     ·subst e; rw [hk] at hv; cases hv; exact Int.le_refl _
     ·have := hmin i (by omega) v hv; omega
   ·rename_i hlt
    cases h
    refine ⟨by omega, T, hT, fun i hi v hv => ?_⟩
    by_cases e : i = k
    ·subst e
     rw [hv, hT] at hlt
     have : ¬ v < T := by simpa [ltO] using hlt
     omega
    ·exact hmin i (by omega) v hv
section
variable (F : Nat → Int → Option Int) (n : Nat)
def mergeL : Nat → Sts → List (Nat × Int)
 | 0, _ => []
 | k + 1, x => match leastL x n with
  | none => []
  | some i => (i, (x i).getD 0) :: mergeL k (upd x i (F i ((x i).getD 0)))
theorem leastL_congr {x y : Sts} : ∀ k, (∀ i, i < k → x i = y i) → leastL x k = leastL y k := by
 intro k
 induction k with
 | zero => intro _; rfl
 | succ k ih =>
  intro h
  unfold leastL
  rw [ih (fun i hi => h i (by omega)), h k (Nat.lt_succ_self _)]
  cases hl : leastL y k with
  | none => rfl
  | some l => simp only; rw [h l (by have := (leastL_some hl).1; omega)]
theorem mergeL_congr : ∀ (m : Nat) {x y : Sts}, (∀ i, i < n → x i = y i) → mergeL F n m x = mergeL F n m y := by
 intro m
 induction m with
 | zero => intro x y _; rfl
 | succ m ih =>
  intro x y h
  unfold mergeL
  rw [leastL_congr n h]
  cases hl : leastL y n with
  | none => rfl
  | some i =>
   simp only
   rw [h i (leastL_some hl).1]
   congr 1
   exact ih fun j hj => by unfold upd; rw [h j hj]
def cnt (x : Sts) (T : Int) : Nat → Nat
 | 0 => 0
 | k + 1 => cnt x T k + if x k = some T then 1 else 0
theorem cnt_pos {x : Sts} {T : Int} : ∀ {k : Nat}, 0 < cnt x T k → ∃ i, i < k ∧ x i = some T := by
 intro k
 induction k with
 | zero => intro h; cases h
 | succ k ih =>
  intro h
  unfold cnt at h
  by_cases e : x k = some T
  ·exact ⟨k, Nat.lt_succ_self _, e⟩
  ·rw [if_neg e] at h; obtain ⟨i, h1, h2⟩ := ih h; exact ⟨i, by omega, h2⟩
theorem cnt_of {x : Sts} {T : Int} : ∀ {k i : Nat}, i < k → x i = some T → 0 < cnt x T k := by
 intro k
 induction k with
 | zero => intro i h; omega
 | succ k ih =>
  intro i hi hx
  unfold cnt
  by_cases e : i = k
  ·subst e; rw [if_pos hx]; omega
  ·have := ih (by omega : i < k) hx; omega
theorem cnt_upd {x : Sts} {T : Int} {j : Nat} {v : Option Int} (hj : x j = some T) (hv : v ≠ some T) : ∀ k, cnt (upd x j v) T k + (if j < k then 1 else 0) = cnt x T k := by
 intro k
 induction k with
 | zero => rfl
 | succ k ih =>
  by_cases e : k = j
  ·subst e
   have e1 : Mrg.cnt (upd x k v) T (k + 1) = Mrg.cnt (upd x k v) T k := by
    show Mrg.cnt (upd x k v) T k + (if upd x k v k = some T then 1 else 0) = _
    rw [if_neg (show ¬ upd x k v k = some T by unfold upd; rw [if_pos rfl]; exact hv)]; rfl
   have e2 : Mrg.cnt x T (k + 1) = Mrg.cnt x T k + 1 := by
    show Mrg.cnt x T k + (if x k = some T then 1 else 0) = _
    rw [if_pos hj]
   rw [if_neg (Nat.lt_irrefl k)] at ih
   rw [e1, e2, if_pos (Nat.lt_succ_self _)]
   omega
  ·have e1 : Mrg.cnt (upd x j v) T (k + 1) = Mrg.cnt (upd x j v) T k + (if x k = some T then 1 else 0) := by
    show Mrg.cnt (upd x j v) T k + (if upd x j v k = some T then 1 else 0) = _
    rw [show upd x j v k = x k by unfold upd; rw [if_neg e]]
   have e2 : Mrg.cnt x T (k + 1) = Mrg.cnt x T k + (if x k = some T then 1 else 0) := rfl
   rw [e1, e2]
   by_cases h : j < k
   ·rw [if_pos h] at ih; rw [if_pos (show j < k + 1 by omega)]; omega
   ·rw [if_neg h] at ih; rw [if_neg (show ¬ j < k + 1 by omega)]; omega
def Later : Prop := ∀ i t v, F i t = some v → t < v
structure Same (past : List (Nat × Int)) (T : Int) (x y : Sts) : Prop where
 each : ∀ i, i < n → x i = y i ∨ (x i = some T ∧ y i = F i T) ∨ (y i = some T ∧ x i = F i T ∧ (i, T) ∈ past)
 cnt : cnt x T n = cnt y T n
 lx : ∀ i, i < n → ∀ v, x i = some v → T ≤ v
 ly : ∀ i, i < n → ∀ v, y i = some v → T ≤ v
variable {F n}
theorem Same.min {past : List (Nat × Int)} {T : Int} {x y : Sts} (h : Same F n past T x y) {i : Nat} {T' : Int} (hi : i < n) (hx : x i = some T') (hmin : ∀ i, i < n → ∀ v, x i = some v → T' ≤ v) :
  T ≤ T' ∧ (∃ j, j < n ∧ y j = some T') ∧ (∀ j, j < n → ∀ v, y j = some v → T' ≤ v) ∧ (T' = T ∨ ∀ j, j < n → x j = y j) := by
 have h0 := h.lx i hi T' hx
 by_cases e : T' = T
 ·subst e
  refine ⟨h0, ?_, h.ly, .inl rfl⟩
  have h1 := cnt_of hi hx
  rw [h.cnt] at h1
  exact cnt_pos h1
 ·have hc : Mrg.cnt x T n = 0 := by
   rcases Nat.eq_zero_or_pos (Mrg.cnt x T n) with h1 | h1
   ·exact h1
   ·obtain ⟨j, hj, hxj⟩ := cnt_pos h1
    have := hmin j hj T hxj
    omega
  have hs : ∀ j, j < n → x j = y j := fun j hj => by
   rcases h.each j hj with h1 | ⟨h1, _⟩ | ⟨h1, _, _⟩
   ·exact h1
   ·have := cnt_of hj h1; omega
   ·have := cnt_of hj h1; rw [← h.cnt] at this; omega
  exact ⟨h0, ⟨i, hi, by rw [← hs i hi]; exact hx⟩, fun j hj v hv => hmin j hj v (by rw [hs j hj]; exact hv), .inr hs⟩
theorem Same.step (hF : Later F) {past : List (Nat × Int)} {T : Int} {x y : Sts} (h : Same F n past T x y) {i j : Nat} {T' : Int} (hi : i < n) (hx : x i = some T') (hmin : ∀ i, i < n → ∀ v, x i = some v → T' ≤ v) (hj : j < n) (hy : y j = some T') :
  Same F n (past ++ [(i, T')]) T' (upd x i (F i T')) (upd y j (F j T')) := by
 obtain ⟨h0, _, hyl, hT⟩ := h.min hi hx hmin
 have hne : ∀ k, F k T' ≠ some T' := fun k e => by have := hF k T' T' e; omega
 have hge : ∀ k v, F k T' = some v → T' ≤ v := fun k v e => by have := hF k T' v e; omega
 have hcnt : Mrg.cnt x T' n = Mrg.cnt y T' n := by
  rcases hT with rfl | hs
  ·exact h.cnt
  ·have : ∀ k, k ≤ n → Mrg.cnt x T' k = Mrg.cnt y T' k := by
    intro k
    induction k with
    | zero => intro _; rfl
    | succ k ih => intro hk; unfold Mrg.cnt; rw [ih (by omega), hs k (by omega)]
   exact this n (Nat.le_refl _)
 have he : ∀ k, k < n → x k = y k ∨ (x k = some T' ∧ y k = F k T') ∨ (y k = some T' ∧ x k = F k T' ∧ (k, T') ∈ past) := fun k hk => by
  rcases hT with rfl | hs
  ·exact h.each k hk
  ·exact .inl (hs k hk)
 refine ⟨fun k hk => ?_, ?_, fun k hk v hv => ?_, fun k hk v hv => ?_⟩
 ·unfold upd
  by_cases e1 : k = i
  ·subst e1
   rw [if_pos rfl]
   by_cases e2 : k = j
   ·subst e2; rw [if_pos rfl]; exact .inl rfl
   ·rw [if_neg e2]
    rcases he k hk with g | ⟨_, g⟩ | ⟨g, _, _⟩
    ·exact .inr (.inr ⟨by rw [← g, hx], rfl, by simp⟩)
    ·exact .inl g.symm
    ·exact .inr (.inr ⟨g, rfl, by simp⟩)
  ·rw [if_neg e1]
   by_cases e2 : k = j
   ·subst e2
    rw [if_pos rfl]
    rcases he k hk with g | ⟨g, _⟩ | ⟨_, g, _⟩
    ·exact .inr (.inl ⟨by rw [g, hy], rfl⟩)
    ·exact .inr (.inl ⟨g, rfl⟩)
    ·exact .inl g
   ·rw [if_neg e2]
    rcases he k hk with g | g | ⟨g1, g2, g3⟩
    ·exact .inl g
    ·exact .inr (.inl g)
    ·exact .inr (.inr ⟨g1, g2, by simp [g3]⟩)
 ·have a := cnt_upd hx (hne i) n
  have b := cnt_upd hy (hne j) n
  rw [if_pos hi] at a
  rw [if_pos hj] at b
  omega
 ·unfold upd at hv
  by_cases e : k = i
  ·rw [if_pos e] at hv; subst e; exact hge k v hv
  ·rw [if_neg e] at hv; exact hmin k hk v hv
 ·unfold upd at hv
  by_cases e : k = j
  ·rw [if_pos e] at hv; subst e; exact hge k v hv
  ·rw [if_neg e] at hv; exact hyl k hk v hv
theorem Same.none {past : List (Nat × Int)} {T : Int} {x y : Sts} (h : Same F n past T x y) (hx : ∀ i, i < n → x i = none) : ∀ i, i < n → y i = none := by
 have hc : Mrg.cnt y T n = 0 := by
  rw [← h.cnt]
  rcases Nat.eq_zero_or_pos (Mrg.cnt x T n) with h1 | h1
  ·exact h1
  ·obtain ⟨j, hj, hxj⟩ := cnt_pos h1
   rw [hx j hj] at hxj; cases hxj
 intro i hi
 rcases h.each i hi with g | ⟨g, _⟩ | ⟨g, _, _⟩
 ·rw [← g]; exact hx i hi
 ·rw [hx i hi] at g; cases g
 ·have := cnt_of hi g; omega
theorem merge_met (hF : Later F) {T : Int} {j : Nat} (hj : j < n) : ∀ (m : Nat) (x : Sts), x j = some T → (∀ i, i < n → ∀ v, x i = some v → T ≤ v) → (j, T) ∈ mergeL F n m x ∨ ((mergeL F n m x).length = m ∧ ∀ e ∈ mergeL F n m x, e.2 = T) := by
 intro m
 induction m with
 | zero => intro x _ _; exact .inr ⟨rfl, fun e he => by cases he⟩
 | succ m ih =>
  intro x hx hmin
  unfold mergeL
  cases hl : leastL x n with
  | none => rw [leastL_none hl j hj] at hx; cases hx
  | some i =>
   obtain ⟨hi, T', hT', hle⟩ := leastL_some hl
   have hTT : T' = T := by have := hle j hj T hx; have := hmin i hi T' hT'; omega
   subst hTT
   simp only
   rw [hT', Option.getD_some]
   by_cases e : j = i
   ·subst e; exact .inl (List.mem_cons_self ..)
   ·have hx' : upd x i (F i T') j = some T' := by unfold upd; rw [if_neg e]; exact hx
    rcases ih (upd x i (F i T')) hx' (fun k hk v hv => by
     unfold upd at hv
     by_cases e : k = i
     ·rw [if_pos e] at hv; subst e; have := hF k T' v hv; omega
     ·rw [if_neg e] at hv; exact hmin k hk v hv) with g | ⟨g1, g2⟩
    ·exact .inl (List.mem_cons_of_mem _ g)
    ·exact .inr ⟨by rw [List.length_cons, g1], fun e he => by
      rcases List.mem_cons.1 he with rfl | he
      ·rfl
      ·exact g2 e he⟩
end
end Go.Proofs.YtcjdideliifkhaaGreatDoor.Mrg
namespace Go.Proofs.YtcjdideliifkhaaGreatDoor
open Go.RowKit Go.Maps Go.Proofs.YtcjdideliifkhaaGreatDoorW.PrintWords Go.Proofs.YtcjdideliifkhaaGreatDoorW.PrintLast Go.Proofs.YtcjdideliifkhaaGreatDoorW.PrintMore PFnCronTextAfterAnywhere
def PlainS (m : CMean) (cs : Array Value) : Prop :=
 (m.every = false ∧ ∃ n0 n1 n2 n3 n4 n5 : Nat, cs = #[.bool false, .int .i64 0, .int .u64 n0, .int .u64 n1, .int .u64 n2, .int .u64 n3, .int .u64 n4, .int .u64 n5] ∧
  BitsOf n0 (m.F 0) ∧ BitsOf n1 (m.F 1) ∧ BitsOf n2 (m.F 2) ∧ BitsOf n3 (m.F 3) ∧ BitsOf n4 (m.F 4) ∧ BitsOf n5 (m.F 5)) ∨
 (m.every = true ∧ cs = #[.bool true, .int .i64 m.delay, .int .u64 0, .int .u64 0, .int .u64 0, .int .u64 0, .int .u64 0, .int .u64 0])
theorem ta_spec (b : Nat) : ∀ w, (Instr.typeAssert (.iface 126 (.pointer (some ⟨b, 0, none⟩))) 82 126 true).run Tryz.prog w = .ok (.tuple #[.pointer (some ⟨b, 0, none⟩), .bool true]) w := fun _ => by kernel_rfl
theorem ta_no (d : Int) : ∀ w, (Instr.typeAssert (.iface 144 (.agg #[.int .i64 d])) 82 126 true).run Tryz.prog w = .ok (.tuple #[.pointer none, .bool false]) w := fun _ => by kernel_rfl
theorem ta_delay (d : Int) : ∀ w, (Instr.typeAssert (.iface 144 (.agg #[.int .i64 d])) 82 144 true).run Tryz.prog w = .ok (.tuple #[.agg #[.int .i64 d], .bool true]) w := fun _ => by kernel_rfl
theorem PlainS.shape {m : CMean} {cs : Array Value} (h : PlainS m cs) : ∃ (b : Bool) (d k0 k1 k2 k3 k4 k5 : Int), cs = #[.bool b, .int .i64 d, .int .u64 k0, .int .u64 k1, .int .u64 k2, .int .u64 k3, .int .u64 k4, .int .u64 k5] := by
 rcases h with ⟨_, n0, n1, n2, n3, n4, n5, rfl, _⟩ | ⟨_, rfl⟩ <;> exact ⟨_, _, _, _, _, _, _, _, rfl⟩
abbrev set8 (w : World) (g : Nat) (v0 v1 v2 v3 v4 v5 v6 v7 : Value) : World := (((((((w.setCell ⟨g, 0, none⟩ v0).setCell ⟨g, 1, none⟩ v1).setCell ⟨g, 2, none⟩ v2).setCell ⟨g, 3, none⟩ v3).setCell ⟨g, 4, none⟩ v4).setCell ⟨g, 5, none⟩ v5).setCell ⟨g, 6, none⟩ v6).setCell ⟨g, 7, none⟩ v7
theorem set8_blk {w : World} {g : Nat} {t : TypeId} {z0 z1 z2 z3 z4 z5 z6 z7 : Value} (h : w.heap[g]? = some (.cells #[z0, z1, z2, z3, z4, z5, z6, z7] t (0, 0))) (v0 v1 v2 v3 v4 v5 v6 v7 : Value) : (set8 w g v0 v1 v2 v3 v4 v5 v6 v7).heap[g]? = some (.cells #[v0, v1, v2, v3, v4, v5, v6, v7] t (0, 0)) := by
 have h0 := blk_put h 0 v0 (cs' := #[v0, z1, z2, z3, z4, z5, z6, z7]) rfl
 have h1 := blk_put h0 1 v1 (cs' := #[v0, v1, z2, z3, z4, z5, z6, z7]) rfl
 have h2 := blk_put h1 2 v2 (cs' := #[v0, v1, v2, z3, z4, z5, z6, z7]) rfl
 have h3 := blk_put h2 3 v3 (cs' := #[v0, v1, v2, v3, z4, z5, z6, z7]) rfl
 have h4 := blk_put h3 4 v4 (cs' := #[v0, v1, v2, v3, v4, z5, z6, z7]) rfl
 have h5 := blk_put h4 5 v5 (cs' := #[v0, v1, v2, v3, v4, v5, z6, z7]) rfl
 have h6 := blk_put h5 6 v6 (cs' := #[v0, v1, v2, v3, v4, v5, v6, z7]) rfl
 exact blk_put h6 7 v7 (cs' := #[v0, v1, v2, v3, v4, v5, v6, v7]) rfl
theorem set8_below {w0 w : World} {g : Nat} (h : Below w0.heap.size w0 w) (hg : w0.heap.size ≤ g) (v0 v1 v2 v3 v4 v5 v6 v7 : Value) : Below w0.heap.size w0 (set8 w g v0 v1 v2 v3 v4 v5 v6 v7) :=
 below_set (below_set (below_set (below_set (below_set (below_set (below_set (below_set h hg) hg) hg) hg) hg) hg) hg) hg
theorem plain_sched_c (m : CMean) (loc : Option Addr) (sv : Value) (w : World) (h : SchedR w m loc sv) :
  Calls Tryz.prog 36 #[sv, .nilIface] w fun e w' => (∃ cs, e = .returned (.tuple #[.agg cs, .bool true]) ∧ PlainS m cs) ∧ Below w.heap.size w w' := by
 have hu59 := Tryz.underlying59
 rcases h with ⟨hev, b, n0, n1, n2, n3, n4, n5, rfl, hspec, f⟩ | ⟨hev, rfl⟩
 ·obtain ⟨hb, c0, c1, c2, c3, c4, c5, c6⟩ := hspec
  have HF := Lib.hid f
  clear f
  have t0 := ta_spec b
  go_enter Tryz.func36, Tryz.ntmps36
  have hbz := pw_cell_below (below_alloc (Below.refl w.heap.size w) (.cells #[.bool false, .int .i64 0, .int .u64 0, .int .u64 0, .int .u64 0, .int .u64 0, .int .u64 0, .int .u64 0] 59)) c0
  replace c1 := pw_cell_below (below_alloc (Below.refl w.heap.size w) (.cells #[.bool false, .int .i64 0, .int .u64 0, .int .u64 0, .int .u64 0, .int .u64 0, .int .u64 0, .int .u64 0] 59)) c1
  replace c2 := pw_cell_below (below_alloc (Below.refl w.heap.size w) (.cells #[.bool false, .int .i64 0, .int .u64 0, .int .u64 0, .int .u64 0, .int .u64 0, .int .u64 0, .int .u64 0] 59)) c2
  replace c3 := pw_cell_below (below_alloc (Below.refl w.heap.size w) (.cells #[.bool false, .int .i64 0, .int .u64 0, .int .u64 0, .int .u64 0, .int .u64 0, .int .u64 0, .int .u64 0] 59)) c3
  replace c4 := pw_cell_below (below_alloc (Below.refl w.heap.size w) (.cells #[.bool false, .int .i64 0, .int .u64 0, .int .u64 0, .int .u64 0, .int .u64 0, .int .u64 0, .int .u64 0] 59)) c4
  replace c5 := pw_cell_below (below_alloc (Below.refl w.heap.size w) (.cells #[.bool false, .int .i64 0, .int .u64 0, .int .u64 0, .int .u64 0, .int .u64 0, .int .u64 0, .int .u64 0] 59)) c5
  go_upto_region 6 with (fail)
  go_region
  all_goals (try go_wp2)
  all_goals
   refine bodyPost_ret (results_ct rfl _ _ w.heap.size 59 #[.bool false, .int .i64 0, .int .u64 n0, .int .u64 n1, .int .u64 n2, .int .u64 n3, .int .u64 n4, .int .u64 n5] (0, 0) _ rfl (blk_new w _) hu59 rfl (by kernel_rfl)) rfl ?_
   exact ⟨⟨_, rfl, .inl ⟨hev, n0, n1, n2, n3, n4, n5, rfl, HF.out⟩⟩, (below_alloc (Below.refl _ _) _).drew⟩
 ·have t0 := ta_no m.delay
  have t1 := ta_delay m.delay
  go_enter Tryz.func36, Tryz.ntmps36
  go_wp2
  refine bodyPost_ret (results_ct rfl _ _ w.heap.size 59 #[.bool true, .int .i64 m.delay, .int .u64 0, .int .u64 0, .int .u64 0, .int .u64 0, .int .u64 0, .int .u64 0] (0, 0) _ rfl (blk_alloc (blk_new w _) _) hu59 rfl (by kernel_rfl)) rfl ?_
  exact ⟨⟨_, rfl, .inr ⟨hev, rfl⟩⟩, below_alloc (below_alloc (Below.refl _ _) _) _⟩
theorem two380 : spec_CronTwoOptional.f ((380 : Nat) : Int) = some false := by kernel_rfl
theorem stdParser_c (w : World) : Calls Tryz.prog 75 #[] w fun e w' => e = .returned (.agg #[.int .i64 380]) ∧ Below w.heap.size w w' := by
 have hu78 := Tryz.underlying78
 have HN := Lib.hid (fun w => newParser_c 380 (by decide) two380 w)
 go_enter Tryz.func75, Tryz.ntmps75
 go_wp2_with (first | (go_at_call 48; refine (HN.out _).mono ?_; clear HN; rintro e w1 ⟨rfl, hb1⟩; have hG := blk_below (blk_new w (.cells #[.int .i64 0] 78)) hb1; have c0 := blk_cell hG 0; have d0 := blk_frozen hG 0; have HB1 := Lib.hid (below_step (below_alloc (Below.refl w.heap.size w) _) hb1); have HG := Lib.hid hG; clear hb1 hG))
 refine bodyPost_ret (results_cell_row rfl _ _ w.heap.size 78 #[.int .i64 380] (0, 0) _ rfl (blk_set HG.out 0 _) hu78 rfl (by kernel_rfl)) rfl ?_
 exact ⟨rfl, below_set HB1.out (Nat.le_refl _)⟩
theorem cronStd_c (s : ByteArray) (hs : s.size ≤ 4294950000) (m : CMean) (h : ParseR 380 (toL s) m) (w : World) :
  Calls Tryz.prog 37 #[.string s] w (ParseQ m w) := by
 have HG := Lib.hid (fun w => parseG_c 380 (by decide) two380 s hs m h w)
 go_enter Tryz.func37, Tryz.ntmps37
 go_wp2_with (first
  | (go_at_call 75; refine (stdParser_c _).mono ?_; rintro e w1 ⟨rfl, hb1⟩; have HB1 := Lib.hid hb1; clear hb1)
  | (go_at_call 30; refine (HG.out _).mono ?_; clear HG; rintro e w2 ⟨⟨v, loc, u, rfl, h1, h2, h3⟩, hb2⟩; have HQ := Lib.hid (And.intro h1 (And.intro h2 h3)); have HB2 := Lib.hid (below_step HB1.out hb2); clear h1 h2 h3 hb2))
 refine bodyPost_ret (results_list (rs := [.tmp 2, .tmp 3]) rfl (by simp) (.tmp (.tmp .nil))) rfl ?_
 exact ⟨⟨v, loc, u, rfl, HQ.out⟩, HB2.out⟩
theorem parseStd_c (s : ByteArray) (hs : s.size ≤ 4294950000) (m : CMean) (h : ParseR 380 (toL s) m) (w : World) :
  Calls Tryz.prog 17 #[.string s] w fun e w' => (∃ cs, e = .returned (.tuple #[.agg cs, .bool true]) ∧ PlainS m cs) ∧ Below w.heap.size w w' := by
 have hu59 := Tryz.underlying59
 have HG := Lib.hid (fun w => cronStd_c s hs m h w)
 go_enter Tryz.func17, Tryz.ntmps17
 go_wp2_with (first
  | (go_at_call 37; refine (HG.out _).mono ?_; clear HG; rintro e w1 ⟨⟨v, loc, u, rfl, h1, h2, h3⟩, hb1⟩; have HS := Lib.hid h1; have HZ := Lib.hid (blk_below (blk_new w (.cells #[.bool false, .int .i64 0, .int .u64 0, .int .u64 0, .int .u64 0, .int .u64 0, .int .u64 0, .int .u64 0] 59)) hb1); have HB1 := Lib.hid (below_step (below_alloc (Below.refl w.heap.size w) _) hb1); clear h1 h2 h3 hb1)
  | (go_at_call 36; refine (plain_sched_c m _ _ _ HS.out).mono ?_; rintro e w2 ⟨⟨cs, rfl, hcs⟩, hb2⟩; obtain ⟨bb, dd, k0, k1, k2, k3, k4, k5, rfl⟩ := hcs.shape; have hG := blk_below HZ.out hb2; have c0 := blk_cell hG 0; have d0 := blk_frozen hG 0; have c1 := blk_cell hG 1; have d1 := blk_frozen hG 1; have c2 := blk_cell hG 2; have d2 := blk_frozen hG 2; have c3 := blk_cell hG 3; have d3 := blk_frozen hG 3; have c4 := blk_cell hG 4; have d4 := blk_frozen hG 4; have c5 := blk_cell hG 5; have d5 := blk_frozen hG 5; have c6 := blk_cell hG 6; have d6 := blk_frozen hG 6; have c7 := blk_cell hG 7; have d7 := blk_frozen hG 7; have HB2 := Lib.hid (below_step HB1.out hb2); have HG := Lib.hid hG; have HCS := Lib.hid hcs; clear hb2 hG hcs))
 refine bodyPost_ret (results_ct rfl _ _ w.heap.size 59 _ (0, 0) _ rfl (set8_blk HG.out _ _ _ _ _ _ _ _) hu59 rfl (by kernel_rfl)) rfl ?_
 exact ⟨⟨_, rfl, HCS.out⟩, set8_below HB2.out (Nat.le_refl _) _ _ _ _ _ _ _ _⟩
end Go.Proofs.YtcjdideliifkhaaGreatDoor
