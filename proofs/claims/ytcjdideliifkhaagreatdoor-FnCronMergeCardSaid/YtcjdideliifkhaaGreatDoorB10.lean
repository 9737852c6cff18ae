import Derived.BigQuiet
import Derived.Deep.LoopGhost
import Derived.Deep.QuietTactic
import Derived.LoopTactic
import Derived.ScopeJumps
import Derived.WalkMore
import Derived.Test.YtcjdideliifkhaaGreatDoorB09
set_option maxRecDepth 100000
set_option maxHeartbeats 16000000
namespace Go.Proofs.YtcjdideliifkhaaGreatDoor
open Go.RowKit
set_option linter.unusedVariables false
set_option linter.unusedSimpArgs false
theorem mkdate_13 (y d h i s : Int) (hy0 : 0 ≤ y) (hy1 : y ≤ 900000) (hd0 : 1 ≤ d) (hd1 : d ≤ 100) (hh0 : 0 ≤ h) (hh1 : h < 24) (hi0 : 0 ≤ i) (hi1 : i < 60) (hs0 : 0 ≤ s) (hs1 : s < 60)
  (u : Nat) (w : World) (hu : IsUTC w u) :
  Calls Tryz.prog 207 #[.int .i64 y, .int .i64 13, .int .i64 d, .int .i64 h, .int .i64 i, .int .i64 s, .int .i64 0, .pointer (some ⟨u, 0, none⟩)] w fun r w' =>
   r = .returned (tm 0 (86400 * Cal.day y 13 d + (h * 3600 + i * 60 + s) + 62135596800) (.pointer none)) ∧ Below w.heap.size w w' := by
 have hus := hu.size
 rw [Cal.day_13]
 go_enter Tryz.func207, Tryz.ntmps207
 go_wp2_with fail
 refine (norm_12 y (by omega) (by omega) _).mono ?_
 rintro r w' ⟨rfl, rfl⟩
 go_wp2_with fail
 refine (norm_in s 0 1000000000 (by omega) (by omega) (by omega) (by omega) _).mono ?_
 rintro r w' ⟨rfl, rfl⟩
 go_wp2_with fail
 refine (norm_in i s 60 (by omega) (by omega) (by omega) (by omega) _).mono ?_
 rintro r w' ⟨rfl, rfl⟩
 go_wp2_with fail
 refine (norm_in h i 60 (by omega) (by omega) (by omega) (by omega) _).mono ?_
 rintro r w' ⟨rfl, rfl⟩
 go_wp2_with fail
 refine (norm_in d h 24 (by omega) (by omega) (by omega) (by omega) _).mono ?_
 rintro r w' ⟨rfl, rfl⟩
 go_wp2_with fail
 refine (absDays_c (y + 1) 1 d (by omega) (by omega) (by omega) (by omega) hd0 (by omega) _).mono ?_
 rintro r w' ⟨rfl, rfl⟩
 go_wp2_with fail
 have hb := day_in (y + 1) 1 d (by omega) (by omega) (by omega) (by omega) hd0 (by omega)
 rw [unix_of _ _ hb.1 hb.2 (by omega) (by omega)]
 have hS : -70000000000 ≤ 86400 * Cal.day (y + 1) 1 d + (h * 3600 + i * 60 + s) ∧ 86400 * Cal.day (y + 1) 1 d + (h * 3600 + i * 60 + s) ≤ 32000000000000 := by omega
 refine (lookup_utc u _ _ (hu.below ((Below.refl _ _).alloc (Nat.le_refl _) _))).mono ?_
 rintro r w' ⟨⟨x1, x2, x3, x4, rfl⟩, rfl⟩
 go_wp2_with fail
 refine (unixTime_c _ 0 (by decide) (by decide) (by omega) (by omega) _).mono ?_
 rintro r w1 ⟨rfl, hb1⟩
 obtain ⟨hc, hf⟩ := bcell hb1
 have hz : w.heap.size < w1.heap.size := by have := hb1.size; simp at this; omega
 have hB : Below w.heap.size w w1 := ((Below.refl _ _).alloc (Nat.le_refl _) _).trans (hb1.mono (by simp))
 go_wp2_with fail
 refine (setLoc_utc _ _ 0 (by decide) (by decide) u _ (by simp [go_sem]) (.pointer none) (by simp [go_sem]) (by simp [go_sem]) ((hu.below hB).below ((Below.refl _ _).alloc (Nat.le_refl _) _))).mono ?_
 rintro r w' ⟨rfl, rfl⟩
 go_wp2
 exact bodyPost_ret (v := tm 0 (86400 * Cal.day (y + 1) 1 d + (h * 3600 + i * 60 + s) + 62135596800) (.pointer none)) (by simp [results, Tryz.f207, go_sem, hc, hz]) rfl
  ⟨rfl, by repeat (first | exact hB | refine Below.setCell ?_ (by simp; try omega) _ | refine Below.alloc ?_ (by simp; try omega) _)⟩
theorem mkdate (y m d h i s : Int) (hy0 : 0 ≤ y) (hy1 : y ≤ 900000) (hm0 : 1 ≤ m) (hm1 : m ≤ 13) (hd0 : 1 ≤ d) (hd1 : d ≤ 100) (hh0 : 0 ≤ h) (hh1 : h < 24) (hi0 : 0 ≤ i) (hi1 : i < 60) (hs0 : 0 ≤ s) (hs1 : s < 60)
  (u : Nat) (w : World) (hu : IsUTC w u) :
  Calls Tryz.prog 207 #[.int .i64 y, .int .i64 m, .int .i64 d, .int .i64 h, .int .i64 i, .int .i64 s, .int .i64 0, .pointer (some ⟨u, 0, none⟩)] w fun r w' =>
   r = .returned (tm 0 (86400 * Cal.day y m d + (h * 3600 + i * 60 + s) + 62135596800) (.pointer none)) ∧ Below w.heap.size w w' := by
 by_cases c : m = 13
 ·subst c; exact mkdate_13 y d h i s hy0 hy1 hd0 hd1 hh0 hh1 hi0 hi1 hs0 hs1 u w hu
 ·exact mkdate_c y m d h i s hy0 hy1 hm0 (by omega) hd0 hd1 hh0 hh1 hi0 hi1 hs0 hs1 u w hu
theorem cY_in {e : Int} (h0 : 0 ≤ e) (h1 : e ≤ 1000000000000) : 1 ≤ Cal.cY (dn e) ∧ Cal.cY (dn e) ≤ 40000 := by
 have hn : dn e = (e - 62135596800) / 86400 + Cal.off := by unfold dn Cal.off; omega
 have hv := Cal.Y_bounds ((e - 62135596800) / 86400)
 unfold Cal.Y at hv
 rw [← hn] at hv
 unfold Cal.ys at hv
 omega
theorem cM_in (N : Int) : 1 ≤ Cal.cM N ∧ Cal.cM N ≤ 12 ∧ 1 ≤ Cal.aD N ∧ Cal.aD N ≤ 31 := by
 have hv := Cal.abs_valid N
 have hp := Cal.mdays_pos (Cal.cY N) (Cal.cM N)
 obtain ⟨a, b, c, d⟩ := hv
 omega
theorem addDate_c (e mm dd : Int) (hs0 : 0 ≤ e) (hs1 : e ≤ 1000000000000) (hm0 : 0 ≤ mm) (hm1 : mm ≤ 1) (hd0 : 0 ≤ dd) (hd1 : dd ≤ 1) (w : World) :
  Calls Tryz.prog 208 #[tm 0 e (.pointer none), .int .i64 0, .int .i64 mm, .int .i64 dd] w fun r w' =>
   r = .returned (tm 0 (86400 * Cal.day (Cal.cY (dn e)) (Cal.cM (dn e) + mm) (Cal.aD (dn e) + dd) + (e % 86400 / 3600 * 3600 + e % 3600 / 60 * 60 + e % 60) + 62135596800) (.pointer none)) ∧ Below w.heap.size w w' := by
 have hY := cY_in hs0 hs1
 have hM := cM_in (dn e)
 obtain ⟨y0, y1⟩ := hY
 obtain ⟨m0, m1, d0, d1⟩ := hM
 go_enter Tryz.func208, Tryz.ntmps208
 go_wp2_with fail
 refine (date_t 0 e (by decide) (by decide) (by omega) (by omega) _).mono ?_
 rintro r w1 ⟨rfl, hb1⟩
 obtain ⟨hc, hf⟩ := bcell hb1
 have hz : w.heap.size + 1 < w1.heap.size := by have := hb1.size; simp at this; omega
 have hB : Below w.heap.size w w1 := (((Below.refl _ _).alloc (Nat.le_refl _) _).alloc (by simp) _).trans (hb1.mono (by simp; omega))
 go_wp2_with fail
 refine (clock_t 0 e (by decide) (by decide) (by omega) (by omega) _).mono ?_
 rintro r w2 ⟨rfl, hb2⟩
 obtain ⟨hc2, hf2⟩ := bcell hb2
 have hz2 : w.heap.size + 1 < w2.heap.size := by have := hb2.size; omega
 have hB2 : Below w.heap.size w w2 := hB.trans (hb2.mono (by omega))
 go_wp2_with fail
 have hx : ∀ x : Int, 0 ≤ x → x ≤ 100000 → IntKind.i64.wrap x = x := fun x h0 h1 => by simp only [IntKind.wrap, IntKind.bits, IntKind.signed]; simp; omega
 have f1 : IntKind.i64.wrap (Cal.cY (dn e)) = Cal.cY (dn e) := hx _ (by omega) (by omega)
 have f2 : IntKind.i64.wrap (Cal.cM (dn e) + mm) = Cal.cM (dn e) + mm := hx _ (by omega) (by omega)
 have f3 : IntKind.i64.wrap (Cal.aD (dn e) + dd) = Cal.aD (dn e) + dd := hx _ (by omega) (by omega)
 clear hx
 have k0 : w2.cell? ⟨w.heap.size, 0, none⟩ = some (.int .u64 0) := by rw [hc2 _ _ (by omega), hc _ _ (by simp; omega)]; simp [go_sem]
 have k1 : w2.cell? ⟨w.heap.size, 1, none⟩ = some (.int .i64 e) := by rw [hc2 _ _ (by omega), hc _ _ (by simp; omega)]; simp [go_sem]
 have k2 : w2.cell? ⟨w.heap.size, 2, none⟩ = some (.pointer none) := by rw [hc2 _ _ (by omega), hc _ _ (by simp; omega)]; simp [go_sem]
 have k3 : w2.cell? ⟨w.heap.size + 1, 0, none⟩ = some (.int .u64 0) := by rw [hc2 _ _ (by omega), hc _ _ (by simp)]; simp [go_sem]
 have k4 : w2.cell? ⟨w.heap.size + 1, 1, none⟩ = some (.int .i64 0) := by rw [hc2 _ _ (by omega), hc _ _ (by simp)]; simp [go_sem]
 have k5 : w2.cell? ⟨w.heap.size + 1, 2, none⟩ = some (.pointer none) := by rw [hc2 _ _ (by omega), hc _ _ (by simp)]; simp [go_sem]
 have k6 : w2.frozen? ⟨w.heap.size + 1, 0, none⟩ = false := by rw [hf2 _ _ (by omega), hf _ _ (by simp)]; simp [go_sem]
 have k7 : w2.frozen? ⟨w.heap.size + 1, 1, none⟩ = false := by rw [hf2 _ _ (by omega), hf _ _ (by simp)]; simp [go_sem]
 have k8 : w2.frozen? ⟨w.heap.size + 1, 2, none⟩ = false := by rw [hf2 _ _ (by omega), hf _ _ (by simp)]; simp [go_sem]
 clear hc hf hc2 hf2 hb1 hb2 hB
 go_region_with (first
   | (go_at_call 126; refine (nsec_c _ _ 0 (by decide) (by decide) _ (by simp [go_sem, k0])).mono ?_; rintro r w' ⟨rfl, rfl⟩)
   | (go_at_call 203; refine (location_c 0 e _).mono ?_; rintro r w3 ⟨u, rfl, hu0, hu, hb3⟩; obtain ⟨hc3, hf3⟩ := bcell hb3; have hz3 : w.heap.size + 1 < w3.heap.size := (by have := hb3.size; simp at this; omega))
   | (go_at_call 207; refine (mkdate _ _ _ _ _ _ (by omega) (by omega) (by omega) (by omega) (by omega) (by omega) (by omega) (by omega) (by omega) (by omega) (by omega) (by omega) u _ hu).mono ?_; rintro r w4 ⟨rfl, hb4⟩; obtain ⟨hc4, hf4⟩ := bcell hb4; have hz4 : w.heap.size + 1 < w4.heap.size := (by have := hb4.size; omega)
      have hy : w.heap.size + 1 < w2.drew.heap.size := (by simp; omega)
      have q3 : w4.cell? ⟨w.heap.size + 1, 0, none⟩ = some (.int .u64 0) := (by rw [hc4 _ _ hz3, hc3 _ _ hy]; simpa using k3)
      have q4 : w4.cell? ⟨w.heap.size + 1, 1, none⟩ = some (.int .i64 0) := (by rw [hc4 _ _ hz3, hc3 _ _ hy]; simpa using k4)
      have q5 : w4.cell? ⟨w.heap.size + 1, 2, none⟩ = some (.pointer none) := (by rw [hc4 _ _ hz3, hc3 _ _ hy]; simpa using k5)
      have q6 : w4.frozen? ⟨w.heap.size + 1, 0, none⟩ = false := (by rw [hf4 _ _ hz3, hf3 _ _ hy]; simpa using k6)
      have q7 : w4.frozen? ⟨w.heap.size + 1, 1, none⟩ = false := (by rw [hf4 _ _ hz3, hf3 _ _ hy]; simpa using k7)
      have q8 : w4.frozen? ⟨w.heap.size + 1, 2, none⟩ = false := (by rw [hf4 _ _ hz3, hf3 _ _ hy]; simpa using k8)
      clear hc4 hf4 hc3 hf3))
 all_goals
  have b0 : Below w.heap.size w w4 := (((hB2.drew).trans (hb3.mono (by simp; omega))).trans (hb4.mono (by omega)))
  go_wp2
  exact bodyPost_ret (v := tm 0 (86400 * Cal.day (Cal.cY (dn e)) (Cal.cM (dn e) + mm) (Cal.aD (dn e) + dd) + (e % 86400 / 3600 * 3600 + e % 3600 / 60 * 60 + e % 60) + 62135596800) (.pointer none)) (by simp [results, Tryz.f208, go_sem, q3, q4, q5]) rfl
   ⟨rfl, by repeat (first | exact b0 | refine Below.setCell ?_ (by simp) _)⟩
def bitOf (b k : Int) : Int := bits .and .u64 (IntKind.u64.wrap (2 ^ k.toNat)) b
def hasBit (b k : Int) : Bool := decide (0 < bitOf b k)
def hasStar (b : Int) : Bool := decide (0 < bits .and .u64 b 9223372036854775808)
structure IsSpec (w : World) (b : Nat) (se mi ho dom mo dow : Int) (loc : Option Addr) : Prop where
 size : b < w.heap.size
 c0 : w.cell? ⟨b, 0, none⟩ = some (.int .u64 se)
 c1 : w.cell? ⟨b, 1, none⟩ = some (.int .u64 mi)
 c2 : w.cell? ⟨b, 2, none⟩ = some (.int .u64 ho)
 c3 : w.cell? ⟨b, 3, none⟩ = some (.int .u64 dom)
 c4 : w.cell? ⟨b, 4, none⟩ = some (.int .u64 mo)
 c5 : w.cell? ⟨b, 5, none⟩ = some (.int .u64 dow)
 c6 : w.cell? ⟨b, 6, none⟩ = some (.pointer loc)
theorem IsSpec.below {w w' : World} {b : Nat} {se mi ho dom mo dow : Int} {loc : Option Addr} (h : IsSpec w b se mi ho dom mo dow loc) (hb : Below w.heap.size w w') : IsSpec w' b se mi ho dom mo dow loc :=
 ⟨Nat.lt_of_lt_of_le h.1 hb.size, (hb.cell (p := ⟨b, 0, none⟩) h.1).trans h.2, (hb.cell (p := ⟨b, 1, none⟩) h.1).trans h.3, (hb.cell (p := ⟨b, 2, none⟩) h.1).trans h.4, (hb.cell (p := ⟨b, 3, none⟩) h.1).trans h.5,
  (hb.cell (p := ⟨b, 4, none⟩) h.1).trans h.6, (hb.cell (p := ⟨b, 5, none⟩) h.1).trans h.7, (hb.cell (p := ⟨b, 6, none⟩) h.1).trans h.8⟩
theorem dayMatches_c (b : Nat) (se mi ho dom mo dow : Int) (loc : Option Addr) (e : Int) (hs0 : 0 ≤ e) (hs1 : e ≤ 1000000000000) (w : World) (hs : IsSpec w b se mi ho dom mo dow loc) :
  Calls Tryz.prog 209 #[.pointer (some ⟨b, 0, none⟩), tm 0 e (.pointer none)] w fun r w' =>
   r = .returned (.bool (if hasStar dom || hasStar dow then hasBit dom (Cal.aD (dn e)) && hasBit dow ((dn e + 3) % 7) else hasBit dom (Cal.aD (dn e)) || hasBit dow ((dn e + 3) % 7))) ∧ Below w.heap.size w w' := by
 have hM := cM_in (dn e)
 obtain ⟨-, -, d0, d1⟩ := hM
 have w0 : 0 ≤ (dn e + 3) % 7 ∧ (dn e + 3) % 7 < 7 := by omega
 obtain ⟨w0, w1'⟩ := w0
 have hsz := hs.size
 have a3 := hs.c3
 have a5 := hs.c5
 have hx := bitOf dom (Cal.aD (dn e))
 go_enter Tryz.func209, Tryz.ntmps209
 go_wp2
 have k0 : (w.alloc (Obj.cells #[Value.int IntKind.u64 0, Value.int IntKind.i64 e, Value.pointer none] 90)).cell? ⟨b, 3, none⟩ = some (.int .u64 dom) := by
  rw [((Below.refl w.heap.size w).alloc (Nat.le_refl _) _).cell (p := ⟨b, 3, none⟩) hsz]; exact a3
 have k1 : (w.alloc (Obj.cells #[Value.int IntKind.u64 0, Value.int IntKind.i64 e, Value.pointer none] 90)).cell? ⟨b, 5, none⟩ = some (.int .u64 dow) := by
  rw [((Below.refl w.heap.size w).alloc (Nat.le_refl _) _).cell (p := ⟨b, 5, none⟩) hsz]; exact a5
 have hB0 : Below w.heap.size w (w.alloc (Obj.cells #[Value.int IntKind.u64 0, Value.int IntKind.i64 e, Value.pointer none] 90)) := (Below.refl _ _).alloc (Nat.le_refl _) _
 have t0 : (w.alloc (Obj.cells #[Value.int IntKind.u64 0, Value.int IntKind.i64 e, Value.pointer none] 90)).cell? ⟨w.heap.size, 0, none⟩ = some (.int .u64 0) := by simp [go_sem]
 have t1 : (w.alloc (Obj.cells #[Value.int IntKind.u64 0, Value.int IntKind.i64 e, Value.pointer none] 90)).cell? ⟨w.heap.size, 1, none⟩ = some (.int .i64 e) := by simp [go_sem]
 have t2 : (w.alloc (Obj.cells #[Value.int IntKind.u64 0, Value.int IntKind.i64 e, Value.pointer none] 90)).cell? ⟨w.heap.size, 2, none⟩ = some (.pointer none) := by simp [go_sem]
 have hz : w.heap.size < (w.alloc (Obj.cells #[Value.int IntKind.u64 0, Value.int IntKind.i64 e, Value.pointer none] 90)).heap.size := by simp
 generalize w.alloc (Obj.cells #[Value.int IntKind.u64 0, Value.int IntKind.i64 e, Value.pointer none] 90) = W at *
 have d2 : Cal.aD (dn e) ≤ 64 := by omega
 have d3 : IntKind.u64.wrap (Cal.aD (dn e)) = Cal.aD (dn e) := wraps_u64 _ (by omega) (by omega)
 have fS : ∀ w', Below W.heap.size W w' → (w'.cell? ⟨w.heap.size, 0, none⟩ = some (.int .u64 0) ∧ w'.cell? ⟨w.heap.size, 1, none⟩ = some (.int .i64 e) ∧ w'.cell? ⟨w.heap.size, 2, none⟩ = some (.pointer none) ∧
   w'.cell? ⟨b, 3, none⟩ = some (.int .u64 dom) ∧ w'.cell? ⟨b, 5, none⟩ = some (.int .u64 dow)) :=
  fun w' h => ⟨(h.cell (p := ⟨_, _, none⟩) hz).trans t0, (h.cell (p := ⟨_, _, none⟩) hz).trans t1, (h.cell (p := ⟨_, _, none⟩) hz).trans t2, (h.cell (p := ⟨b, 3, none⟩) (Nat.lt_trans hsz hz)).trans k0, (h.cell (p := ⟨b, 5, none⟩) (Nat.lt_trans hsz hz)).trans k1⟩
 clear t0 t1 t2 k0 k1
 have hX : Below W.heap.size W W.drew := (Below.refl _ _).drew
 go_region_held3 (fun w' => w'.cell? ⟨w.heap.size, 0, none⟩ = some (.int .u64 0) ∧ w'.cell? ⟨w.heap.size, 1, none⟩ = some (.int .i64 e) ∧ w'.cell? ⟨w.heap.size, 2, none⟩ = some (.pointer none) ∧
   w'.cell? ⟨b, 3, none⟩ = some (.int .u64 dom) ∧ w'.cell? ⟨b, 5, none⟩ = some (.int .u64 dow)) (exact fS _ hX)
  (first
   | (go_at_call 201; refine (day_t 0 e (by decide) (by decide) (by omega) (by omega) _).mono ?_; rintro r w1 ⟨rfl, hb⟩; replace hX := hX.trans (hb.mono hX.size)))
 rw [show decide (0 < bits BinOp.and IntKind.u64 (IntKind.u64.wrap (2 ^ (Cal.aD (dn e)).toNat)) dom) = hasBit dom (Cal.aD (dn e)) from rfl]
 clear d3
 go_wp2
 have w2 : (dn e + 3) % 7 ≤ 64 := by omega
 have w3 : IntKind.u64.wrap ((dn e + 3) % 7) = (dn e + 3) % 7 := wraps_u64 _ (by omega) (by omega)
 have hX2 : Below W.heap.size W w1.drew := hX.drew
 go_region_held3 (fun w' => w'.cell? ⟨w.heap.size, 0, none⟩ = some (.int .u64 0) ∧ w'.cell? ⟨w.heap.size, 1, none⟩ = some (.int .i64 e) ∧ w'.cell? ⟨w.heap.size, 2, none⟩ = some (.pointer none) ∧
   w'.cell? ⟨b, 3, none⟩ = some (.int .u64 dom) ∧ w'.cell? ⟨b, 5, none⟩ = some (.int .u64 dow)) (exact fS _ hX2)
  (first
   | (go_at_call 227; refine (weekday_t 0 e (by decide) (by decide) (by omega) (by omega) _).mono ?_; rintro r w1 ⟨rfl, hb⟩; replace hX2 := hX2.trans (hb.mono hX2.size)))
 rw [show decide (0 < bits BinOp.and IntKind.u64 (IntKind.u64.wrap (2 ^ ((dn e + 3) % 7).toNat)) dow) = hasBit dow ((dn e + 3) % 7) from rfl]
 clear w3
 have hBw : Below w.heap.size w _ := hB0.trans (hX2.mono (Nat.le_of_lt hz))
 by_cases P1 : 0 < bits .and .u64 dom 9223372036854775808
 ·have q1 : hasStar dom = true := decide_eq_true P1
  go_wp2
  all_goals
   go_ret
   exact ⟨by simp [*], hBw⟩
 ·have q1 : hasStar dom = false := decide_eq_false P1
  by_cases P2 : 0 < bits .and .u64 dow 9223372036854775808
  ·have q2 : hasStar dow = true := decide_eq_true P2
   go_wp2
   all_goals
    go_ret
    exact ⟨by simp [*], hBw⟩
  ·have q2 : hasStar dow = false := decide_eq_false P2
   go_wp2
   all_goals
    go_ret
    exact ⟨by simp [*], hBw⟩
theorem delayNext_c (k ns e : Int) (l : Value) (hl : ∃ p, l = .pointer p) (h0 : 0 ≤ ns) (h1 : ns < 1000000000) (hk0 : 1 ≤ k) (hk1 : k ≤ 9223372036) (hs0 : 0 ≤ e) (hs1 : e ≤ 1000000000000) (w : World) :
  Calls Tryz.prog 235 #[.agg #[.int .i64 (k * 1000000000)], tm ns e l] w fun r w' => r = .returned (tm 0 (e + k) l) ∧ Below w.heap.size w w' := by
 have hl' := hl
 obtain ⟨p, rfl⟩ := hl
 have hk : 0 ≤ k * 1000000000 - ns ∧ k * 1000000000 - ns ≤ 9223372036854775807 := by omega
 obtain ⟨hk2, hk3⟩ := hk
 have hk4 : 0 ≤ k * 1000000000 ∧ k * 1000000000 ≤ 9223372036854775807 := by omega
 obtain ⟨hk5, hk6⟩ := hk4
 have hwr : IntKind.i64.wrap ns = ns := by simp only [IntKind.wrap, IntKind.bits, IntKind.signed]; simp; omega
 have hwr2 : IntKind.i64.wrap (k * 1000000000 - ns) = k * 1000000000 - ns := by simp only [IntKind.wrap, IntKind.bits, IntKind.signed]; simp; omega
 go_enter Tryz.func235, Tryz.ntmps235
 go_wp2
 have hc : ∀ W : World, W = ((w.alloc (Obj.cells #[Value.int IntKind.i64 (k * 1000000000)] 144)).alloc (Obj.cells #[Value.int IntKind.u64 ns, Value.int IntKind.i64 e, Value.pointer p] 90)).alloc (Obj.cells #[Value.int IntKind.u64 0, Value.int IntKind.i64 0, Value.pointer none] 90) →
   (W.cell? ⟨w.heap.size, 0, none⟩ = some (.int .i64 (k * 1000000000)) ∧ W.cell? ⟨w.heap.size + 1, 0, none⟩ = some (.int .u64 ns) ∧ W.cell? ⟨w.heap.size + 1, 1, none⟩ = some (.int .i64 e) ∧ W.cell? ⟨w.heap.size + 1, 2, none⟩ = some (.pointer p)
   ∧ W.cell? ⟨w.heap.size + 2, 0, none⟩ = some (.int .u64 0) ∧ W.cell? ⟨w.heap.size + 2, 1, none⟩ = some (.int .i64 0) ∧ W.cell? ⟨w.heap.size + 2, 2, none⟩ = some (.pointer none)
   ∧ W.frozen? ⟨w.heap.size + 2, 0, none⟩ = false ∧ W.frozen? ⟨w.heap.size + 2, 1, none⟩ = false ∧ W.frozen? ⟨w.heap.size + 2, 2, none⟩ = false ∧ W.heap.size = w.heap.size + 3 ∧ Below w.heap.size w W) := by
  intro W hW
  subst hW
  refine ⟨by simp [go_sem], by simp [go_sem], by simp [go_sem], by simp [go_sem], by simp [go_sem], by simp [go_sem], by simp [go_sem], by simp [go_sem], by simp [go_sem], by simp [go_sem], by simp, ?_⟩
  exact (((Below.refl _ _).alloc (Nat.le_refl _) _).alloc (by simp) _).alloc (by simp; omega) _
 generalize hW : ((w.alloc (Obj.cells #[Value.int IntKind.i64 (k * 1000000000)] 144)).alloc (Obj.cells #[Value.int IntKind.u64 ns, Value.int IntKind.i64 e, Value.pointer p] 90)).alloc (Obj.cells #[Value.int IntKind.u64 0, Value.int IntKind.i64 0, Value.pointer none] 90) = W at hc ⊢
 obtain ⟨a0, b0, b1, b2, c0, c1, c2, f0, f1, f2, hz, hB⟩ := hc _ rfl
 clear hc hW
 have hz0 : w.heap.size < W.heap.size := by omega
 have hz1 : w.heap.size + 1 < W.heap.size := by omega
 have hz2 : w.heap.size + 2 < W.heap.size := by omega
 clear hz
 have fS : ∀ w', Below (w.heap.size + 2) W w' → (w'.cell? ⟨w.heap.size, 0, none⟩ = some (.int .i64 (k * 1000000000)) ∧ w'.cell? ⟨w.heap.size + 1, 0, none⟩ = some (.int .u64 ns) ∧ w'.cell? ⟨w.heap.size + 1, 1, none⟩ = some (.int .i64 e) ∧ w'.cell? ⟨w.heap.size + 1, 2, none⟩ = some (.pointer p)) :=
  fun w' h => ⟨(h.cell (p := ⟨_, 0, none⟩) (by simp)).trans a0, (h.cell (p := ⟨_, 0, none⟩) (by simp)).trans b0, (h.cell (p := ⟨_, 1, none⟩) (by simp)).trans b1, (h.cell (p := ⟨_, 2, none⟩) (by simp)).trans b2⟩
 have fR : ∀ w', Below W.heap.size W w' → (w'.cell? ⟨w.heap.size + 2, 0, none⟩ = some (.int .u64 0) ∧ w'.cell? ⟨w.heap.size + 2, 1, none⟩ = some (.int .i64 0) ∧ w'.cell? ⟨w.heap.size + 2, 2, none⟩ = some (.pointer none)
   ∧ w'.frozen? ⟨w.heap.size + 2, 0, none⟩ = false ∧ w'.frozen? ⟨w.heap.size + 2, 1, none⟩ = false ∧ w'.frozen? ⟨w.heap.size + 2, 2, none⟩ = false) :=
  fun w' h => ⟨(h.cell (p := ⟨_, 0, none⟩) hz2).trans c0, (h.cell (p := ⟨_, 1, none⟩) hz2).trans c1, (h.cell (p := ⟨_, 2, none⟩) hz2).trans c2,
   (h.frozen (p := ⟨_, 0, none⟩) hz2).trans f0, (h.frozen (p := ⟨_, 1, none⟩) hz2).trans f1, (h.frozen (p := ⟨_, 2, none⟩) hz2).trans f2⟩
 clear a0 b0 b1 b2 c0 c1 c2 f0 f1 f2
 have hX : Below W.heap.size W W.drew := (Below.refl _ _).drew
 go_region_held3 (fun w' => w'.cell? ⟨w.heap.size, 0, none⟩ = some (.int .i64 (k * 1000000000)) ∧ w'.cell? ⟨w.heap.size + 1, 0, none⟩ = some (.int .u64 ns) ∧ w'.cell? ⟨w.heap.size + 1, 1, none⟩ = some (.int .i64 e) ∧ w'.cell? ⟨w.heap.size + 1, 2, none⟩ = some (.pointer p))
  (first
   | exact fS _ (hX.mono (Nat.le_of_lt hz2))
   | exact fS _ ((((hX.mono (Nat.le_of_lt hz2)).setCell (by simp) _).setCell (by simp) _).setCell (by simp) _))
  (first
   | (go_at_call 98; refine (nanosecond_c ns e _ hl' h0 h1 _).mono ?_; rintro r w1 ⟨rfl, hb⟩; replace hX := hX.trans (hb.mono hX.size))
   | (go_at_call 204; refine (add_c ns e k _ _ hl' h0 h1 rfl hk2 hk3 (by omega) (by omega) _).mono ?_; rintro r w1 ⟨rfl, hb⟩; replace hX := hX.trans (hb.mono hX.size); have hR := fR _ hX))
 have hBw := hB.trans (hX.mono (by omega))
 go_wp2
 exact bodyPost_ret (v := tm 0 (e + k) (.pointer p)) (by simp [results, Tryz.f235, go_sem, hR]) rfl
  ⟨rfl, ((hBw.setCell (by simp; omega) _).setCell (by simp; omega) _).setCell (by simp; omega) _⟩
def Org (w : World) (o : Nat) (lv : Value) : Prop := (IsUTC w o ∧ lv = .pointer none) ∨ (o < w.heap.size ∧ w.cell? ⟨o, 0, none⟩ = some (.bool false) ∧ lv = .pointer (some ⟨o, 0, none⟩))
theorem Org.below {w w' : World} {o : Nat} {lv : Value} (h : Org w o lv) (hb : Below w.heap.size w w') : Org w' o lv := by
 rcases h with ⟨h, e⟩ | ⟨h1, h2, e⟩
 ·exact .inl ⟨h.below hb, e⟩
 ·exact .inr ⟨Nat.lt_of_lt_of_le h1 hb.size, (hb.cell (p := ⟨o, 0, none⟩) h1).trans h2, e⟩
structure Own3 (w : World) (t : Nat) (x y z : Value) : Prop where
 size : t < w.heap.size
 k0 : w.cell? ⟨t, 0, none⟩ = some x
 k1 : w.cell? ⟨t, 1, none⟩ = some y
 k2 : w.cell? ⟨t, 2, none⟩ = some z
 f0 : w.frozen? ⟨t, 0, none⟩ = false
 f1 : w.frozen? ⟨t, 1, none⟩ = false
 f2 : w.frozen? ⟨t, 2, none⟩ = false
theorem Own3.below {w w' : World} {t : Nat} {x y z : Value} (h : Own3 w t x y z) (hb : Below w.heap.size w w') : Own3 w' t x y z :=
 ⟨Nat.lt_of_lt_of_le h.1 hb.size, (hb.cell (p := ⟨t, 0, none⟩) h.1).trans h.2, (hb.cell (p := ⟨t, 1, none⟩) h.1).trans h.3, (hb.cell (p := ⟨t, 2, none⟩) h.1).trans h.4,
  (hb.frozen (p := ⟨t, 0, none⟩) h.1).trans h.5, (hb.frozen (p := ⟨t, 1, none⟩) h.1).trans h.6, (hb.frozen (p := ⟨t, 2, none⟩) h.1).trans h.7⟩
abbrev set3 (w : World) (t : Nat) (x y z : Value) : World := ((w.setCell ⟨t, 0, none⟩ x).setCell ⟨t, 1, none⟩ y).setCell ⟨t, 2, none⟩ z
theorem set3_heap (w : World) (t : Nat) (x y z : Value) : (set3 w t x y z).heap.size = w.heap.size := by simp [set3, World.setCell]
theorem set3_block (w : World) (t : Nat) (x y z : Value) (k : Nat) (h : k ≠ t) : (set3 w t x y z).heap[k]? = w.heap[k]? := by
 rw [Below.heap_setCell _ _ _ _ h, Below.heap_setCell _ _ _ _ h, Below.heap_setCell _ _ _ _ h]
theorem set3_cell (w : World) (t : Nat) (x y z : Value) (p : Addr) (h : p.block ≠ t) : (set3 w t x y z).cell? p = w.cell? p :=
 World.cell?_of_block (w := w) (set3_block w t x y z p.block h)
theorem set3_frozen (w : World) (t : Nat) (x y z : Value) (p : Addr) (h : p.block ≠ t) : (set3 w t x y z).frozen? p = w.frozen? p :=
 World.frozen?_of_block (w := w) (set3_block w t x y z p.block h)
theorem Own3.set {w : World} {t : Nat} {x y z : Value} (h : Own3 w t x y z) (x' y' z' : Value) : Own3 (set3 w t x' y' z') t x' y' z' := by
 obtain ⟨h1, h2, h3, h4, h5, h6, h7⟩ := h
 refine ⟨by rw [set3_heap]; exact h1, ?_, ?_, ?_, ?_, ?_, ?_⟩ <;> simp [set3, go_sem, h2, h3, h4, h5, h6, h7]
theorem Own3.other {w : World} {t t' : Nat} {x y z : Value} (h : Own3 w t x y z) (hne : t ≠ t') (x' y' z' : Value) : Own3 (set3 w t' x' y' z') t x y z :=
 ⟨by rw [set3_heap]; exact h.1, by rw [set3_cell _ _ _ _ _ _ hne]; exact h.2, by rw [set3_cell _ _ _ _ _ _ hne]; exact h.3, by rw [set3_cell _ _ _ _ _ _ hne]; exact h.4,
  by rw [set3_frozen _ _ _ _ _ _ hne]; exact h.5, by rw [set3_frozen _ _ _ _ _ _ hne]; exact h.6, by rw [set3_frozen _ _ _ _ _ _ hne]; exact h.7⟩
theorem IsUTC.other {w : World} {u t' : Nat} (h : IsUTC w u) (hne : u ≠ t') (x' y' z' : Value) : IsUTC (set3 w t' x' y' z') u :=
 ⟨by rw [set3_heap]; exact h.1, by rw [set3_cell _ _ _ _ _ _ hne]; exact h.2, by rw [set3_cell _ _ _ _ _ _ hne]; exact h.3⟩
theorem Org.other {w : World} {o t' : Nat} {lv : Value} (h : Org w o lv) (hne : o ≠ t') (x' y' z' : Value) : Org (set3 w t' x' y' z') o lv := by
 rcases h with ⟨h, e⟩ | ⟨h1, h2, e⟩
 ·exact .inl ⟨h.other hne _ _ _, e⟩
 ·exact .inr ⟨by rw [set3_heap]; exact h1, by rw [set3_cell _ _ _ _ _ _ hne]; exact h2, e⟩
theorem IsSpec.other {w : World} {b t' : Nat} {se mi ho dom mo dow : Int} {loc : Option Addr} (h : IsSpec w b se mi ho dom mo dow loc) (hne : b ≠ t') (x' y' z' : Value) : IsSpec (set3 w t' x' y' z') b se mi ho dom mo dow loc :=
 ⟨by rw [set3_heap]; exact h.1, by rw [set3_cell _ _ _ _ _ _ hne]; exact h.2, by rw [set3_cell _ _ _ _ _ _ hne]; exact h.3, by rw [set3_cell _ _ _ _ _ _ hne]; exact h.4,
  by rw [set3_cell _ _ _ _ _ _ hne]; exact h.5, by rw [set3_cell _ _ _ _ _ _ hne]; exact h.6, by rw [set3_cell _ _ _ _ _ _ hne]; exact h.7, by rw [set3_cell _ _ _ _ _ _ hne]; exact h.8⟩
structure St (w0 : World) (b u o t3 t4 : Nat) (lv : Value) (se mi ho dom mo dow : Int) (loc : Option Addr) (w : World) (e : Int) : Prop where
 spec : IsSpec w b se mi ho dom mo dow loc
 utc : IsUTC w u
 org : Org w o lv
 t : Own3 w t3 (.int .u64 0) (.int .i64 e) (.pointer none)
 r : Own3 w t4 (.int .u64 0) (.int .i64 0) (.pointer none)
 below : Below w0.heap.size w0 w
 b0 : b < w0.heap.size
 h3 : w0.heap.size ≤ t3
 h4 : w0.heap.size ≤ t4
 n34 : t3 ≠ t4
 nu : u ≠ t3
 no : o ≠ t3
theorem St.goes {w0 : World} {b u o t3 t4 : Nat} {lv : Value} {se mi ho dom mo dow : Int} {loc : Option Addr} {w w' : World} {e : Int} (h : St w0 b u o t3 t4 lv se mi ho dom mo dow loc w e) (hb : Below w.heap.size w w') : St w0 b u o t3 t4 lv se mi ho dom mo dow loc w' e :=
 { h with spec := h.spec.below hb, utc := h.utc.below hb, org := h.org.below hb, t := h.t.below hb, r := h.r.below hb, below := h.below.trans (hb.mono h.below.size) }
theorem St.drew {w0 : World} {b u o t3 t4 : Nat} {lv : Value} {se mi ho dom mo dow : Int} {loc : Option Addr} {w : World} {e : Int} (h : St w0 b u o t3 t4 lv se mi ho dom mo dow loc w e) : St w0 b u o t3 t4 lv se mi ho dom mo dow loc w.drew e :=
 h.goes (Below.refl _ _).drew
theorem St.put {w0 : World} {b u o t3 t4 : Nat} {lv : Value} {se mi ho dom mo dow : Int} {loc : Option Addr} {w : World} {e : Int} (h : St w0 b u o t3 t4 lv se mi ho dom mo dow loc w e) (e' : Int) : St w0 b u o t3 t4 lv se mi ho dom mo dow loc (set3 w t3 (.int .u64 0) (.int .i64 e') (.pointer none)) e' :=
 { h with
  spec := h.spec.other (by have := h.b0; have := h.h3; omega) _ _ _, utc := h.utc.other h.nu _ _ _, org := h.org.other h.no _ _ _, t := h.t.set _ _ _, r := h.r.other (Ne.symm h.n34) _ _ _,
  below := ((h.below.setCell h.h3 _).setCell h.h3 _).setCell h.h3 _ }
abbrev at_ (x : Int) : Value := tm 0 (x + 62135596800) (.pointer none)
def fOf (se mi ho dom mo dow : Int) : Cal.F :=
 ⟨fun k => hasBit mo k, fun k => hasBit dom k, fun k => hasBit dow k, fun k => hasBit ho k, fun k => hasBit mi k, fun k => hasBit se k, hasStar dom || hasStar dow⟩
theorem year_s (x : Int) (h0 : -62135596800 ≤ x) (h1 : x ≤ 900000000000) (w : World) : Calls Tryz.prog 205 #[at_ x] w fun r w' => r = .returned (.int .i64 (Cal.Y (x / 86400))) ∧ Below w.heap.size w w' := by
 have := year_t 0 (x + 62135596800) (by decide) (by decide) (by omega) (by omega) w; rw [dn_eq] at this; exact this
theorem month_s (x : Int) (h0 : -62135596800 ≤ x) (h1 : x ≤ 900000000000) (w : World) : Calls Tryz.prog 206 #[at_ x] w fun r w' => r = .returned (.int .i64 (Cal.M (x / 86400))) ∧ Below w.heap.size w w' := by
 have := month_t 0 (x + 62135596800) (by decide) (by decide) (by omega) (by omega) w; rw [dn_eq] at this; exact this
theorem day_s (x : Int) (h0 : -62135596800 ≤ x) (h1 : x ≤ 900000000000) (w : World) : Calls Tryz.prog 201 #[at_ x] w fun r w' => r = .returned (.int .i64 (Cal.D (x / 86400))) ∧ Below w.heap.size w w' := by
 have := day_t 0 (x + 62135596800) (by decide) (by decide) (by omega) (by omega) w; rw [dn_eq] at this; exact this
theorem hour_s (x : Int) (h0 : -62135596800 ≤ x) (h1 : x ≤ 900000000000) (w : World) : Calls Tryz.prog 210 #[at_ x] w fun r w' => r = .returned (.int .i64 (x % 86400 / 3600)) ∧ Below w.heap.size w w' := by
 have := hour_t 0 (x + 62135596800) (by decide) (by decide) (by omega) (by omega) w; rw [show (x + 62135596800) % 86400 = x % 86400 by omega] at this; exact this
theorem minute_s (x : Int) (h0 : -62135596800 ≤ x) (h1 : x ≤ 900000000000) (w : World) : Calls Tryz.prog 211 #[at_ x] w fun r w' => r = .returned (.int .i64 (x % 3600 / 60)) ∧ Below w.heap.size w w' := by
 have := minute_t 0 (x + 62135596800) (by decide) (by decide) (by omega) (by omega) w; rw [show (x + 62135596800) % 3600 = x % 3600 by omega] at this; exact this
theorem second_s (x : Int) (h0 : -62135596800 ≤ x) (h1 : x ≤ 900000000000) (w : World) : Calls Tryz.prog 213 #[at_ x] w fun r w' => r = .returned (.int .i64 (x % 60)) ∧ Below w.heap.size w w' := by
 have := second_t 0 (x + 62135596800) (by decide) (by decide) (by omega) (by omega) w; rw [show (x + 62135596800) % 60 = x % 60 by omega] at this; exact this
theorem dayMatches_s (x : Int) (h0 : -62135596800 ≤ x) (h1 : x ≤ 900000000000) (w : World) (b : Nat) (se mi ho dom mo dow : Int) (loc : Option Addr) (hs : IsSpec w b se mi ho dom mo dow loc) :
  Calls Tryz.prog 209 #[.pointer (some ⟨b, 0, none⟩), at_ x] w fun r w' => r = .returned (.bool (Cal.dayFits (fOf se mi ho dom mo dow) (x / 86400))) ∧ Below w.heap.size w w' := by
 have := dayMatches_c b se mi ho dom mo dow loc (x + 62135596800) (by omega) (by omega) w hs
 rw [dn_eq, show (x / 86400 + Cal.off + 3) % 7 = Cal.W (x / 86400) by unfold Cal.off Cal.W; omega] at this
 exact this
theorem add_s (x : Int) (h0 : -62135596800 ≤ x) (h1 : x ≤ 900000000000) (w : World) (k d : Int) (hd : d = k * 1000000000) (hk0 : 0 ≤ k) (hk1 : k ≤ 1000000) :
  Calls Tryz.prog 204 #[at_ x, .int .i64 d] w fun r w' => r = .returned (at_ (x + k)) ∧ Below w.heap.size w w' := by
 have := add_c 0 (x + 62135596800) k d (.pointer none) ⟨_, rfl⟩ (by decide) (by decide) (by omega) (by omega) (by omega) (by omega) (by omega) w
 rw [show x + 62135596800 + k = x + k + 62135596800 by omega] at this; exact this
theorem truncMinute_s (x : Int) (h0 : -62135596800 ≤ x) (h1 : x ≤ 900000000000) (w : World) : Calls Tryz.prog 212 #[at_ x, .int .i64 60000000000] w fun r w' => r = .returned (at_ (x - x % 60)) ∧ Below w.heap.size w w' := by
 have := truncate_minute (x + 62135596800) (.pointer none) ⟨_, rfl⟩ (by omega) (by omega) w
 rw [show x + 62135596800 + -((x + 62135596800) % 60) = x - x % 60 + 62135596800 by omega] at this; exact this
theorem truncSecond_s (x : Int) (h0 : -62135596800 ≤ x) (h1 : x ≤ 900000000000) (w : World) : Calls Tryz.prog 212 #[at_ x, .int .i64 1000000000] w fun r w' => r = .returned (at_ x) ∧ Below w.heap.size w w' :=
 truncate_second (x + 62135596800) (.pointer none) ⟨_, rfl⟩ (by omega) (by omega) w
theorem addDay_s (x : Int) (h0 : -62135596800 ≤ x) (h1 : x ≤ 900000000000) (w : World) : Calls Tryz.prog 208 #[at_ x, .int .i64 0, .int .i64 0, .int .i64 1] w fun r w' => r = .returned (at_ (x + 86400)) ∧ Below w.heap.size w w' := by
 have := addDate_c (x + 62135596800) 0 1 (by omega) (by omega) (by decide) (by decide) (by decide) (by decide) w
 rw [dn_eq, Int.add_zero, Cal.day_add, show Cal.day (Cal.cY (x / 86400 + Cal.off)) (Cal.cM (x / 86400 + Cal.off)) (Cal.aD (x / 86400 + Cal.off)) = x / 86400 from Cal.date_day (x / 86400),
  show 86400 * (x / 86400 + 1) + ((x + 62135596800) % 86400 / 3600 * 3600 + (x + 62135596800) % 3600 / 60 * 60 + (x + 62135596800) % 60) + 62135596800 = x + 86400 + 62135596800 by omega] at this
 exact this
theorem addMonth_s (x : Int) (h0 : -62135596800 ≤ x) (h1 : x ≤ 900000000000) (w : World) (hd : Cal.D (x / 86400) = 1) (hz : x % 86400 = 0) : Calls Tryz.prog 208 #[at_ x, .int .i64 0, .int .i64 1, .int .i64 0] w fun r w' => r = .returned (at_ (86400 * Cal.nm (x / 86400))) ∧ Below w.heap.size w w' := by
 have := addDate_c (x + 62135596800) 1 0 (by omega) (by omega) (by decide) (by decide) (by decide) (by decide) w
 rw [dn_eq, Int.add_zero, show Cal.aD (x / 86400 + Cal.off) = 1 from hd, show Cal.day (Cal.cY (x / 86400 + Cal.off)) (Cal.cM (x / 86400 + Cal.off) + 1) 1 = Cal.nm (x / 86400) from (Cal.nm_day (x / 86400)).symm,
  show 86400 * Cal.nm (x / 86400) + ((x + 62135596800) % 86400 / 3600 * 3600 + (x + 62135596800) % 3600 / 60 * 60 + (x + 62135596800) % 60) + 62135596800 = 86400 * Cal.nm (x / 86400) + 62135596800 by omega] at this
 exact this
theorem date_in (x : Int) (h0 : -62135596800 ≤ x) (h1 : x ≤ 900000000000) : 1 ≤ Cal.Y (x / 86400) ∧ Cal.Y (x / 86400) ≤ 40000 := by
 have := cY_in (e := x + 62135596800) (by omega) (by omega); rw [dn_eq] at this; exact this
theorem monthStart_s (x : Int) (h0 : -62135596800 ≤ x) (h1 : x ≤ 900000000000) (w : World) (u : Nat) (hu : IsUTC w u) : Calls Tryz.prog 207 #[.int .i64 (Cal.Y (x / 86400)), .int .i64 (Cal.M (x / 86400)), .int .i64 1, .int .i64 0, .int .i64 0, .int .i64 0, .int .i64 0, .pointer (some ⟨u, 0, none⟩)] w fun r w' =>
  r = .returned (at_ (86400 * (x / 86400 - Cal.D (x / 86400) + 1))) ∧ Below w.heap.size w w' := by
 have hy := date_in x h0 h1
 have hv := Cal.date_valid (x / 86400)
 have := mkdate (Cal.Y (x / 86400)) (Cal.M (x / 86400)) 1 0 0 0 (by omega) (by omega) hv.1 (by have := hv.2.1; omega) (by decide) (by decide) (by decide) (by decide) (by decide) (by decide) (by decide) (by decide) u w hu
 rw [show Cal.day (Cal.Y (x / 86400)) (Cal.M (x / 86400)) 1 = x / 86400 - Cal.D (x / 86400) + 1 by
  have e := Cal.date_day (x / 86400)
  have := Cal.day_add (Cal.Y (x / 86400)) (Cal.M (x / 86400)) 1 (Cal.D (x / 86400) - 1)
  rw [show 1 + (Cal.D (x / 86400) - 1) = Cal.D (x / 86400) by omega, e] at this; omega,
  show 86400 * (x / 86400 - Cal.D (x / 86400) + 1) + (0 * 3600 + 0 * 60 + 0) + 62135596800 = 86400 * (x / 86400 - Cal.D (x / 86400) + 1) + 62135596800 by omega] at this
 exact this
theorem hourStart_s (x : Int) (h0 : -62135596800 ≤ x) (h1 : x ≤ 900000000000) (w : World) (h : Int) (hh0 : 0 ≤ h) (hh1 : h < 24) (u : Nat) (hu : IsUTC w u) : Calls Tryz.prog 207 #[.int .i64 (Cal.Y (x / 86400)), .int .i64 (Cal.M (x / 86400)), .int .i64 (Cal.D (x / 86400)), .int .i64 h, .int .i64 0, .int .i64 0, .int .i64 0, .pointer (some ⟨u, 0, none⟩)] w fun r w' =>
  r = .returned (at_ (86400 * (x / 86400) + h * 3600)) ∧ Below w.heap.size w w' := by
 have hy := date_in x h0 h1
 have hv := Cal.date_valid (x / 86400)
 have hp := Cal.mdays_pos (Cal.Y (x / 86400)) (Cal.M (x / 86400))
 obtain ⟨v1, v2, v3, v4⟩ := hv
 have := mkdate (Cal.Y (x / 86400)) (Cal.M (x / 86400)) (Cal.D (x / 86400)) h 0 0 (by omega) (by omega) v1 (by omega) v3 (by omega) hh0 hh1 (by decide) (by decide) (by decide) (by decide) u w hu
 rw [Cal.date_day, show 86400 * (x / 86400) + (h * 3600 + 0 * 60 + 0) + 62135596800 = 86400 * (x / 86400) + h * 3600 + 62135596800 by omega] at this
 exact this
structure Pl (f : Cal.F) (first last : Int) (added : Bool) (s : Int) : Prop where
 from_ : first ≤ s
 lo : -62135596800 ≤ first
 hi : s ≤ 900000000000
 quiet : Cal.Quiet f first s
 al : added = true → Cal.Al f s
def secOf (t3 : Nat) (w : World) : Int := match w.cell? ⟨t3, 1, none⟩ with | some v => intOf v | none => 0
theorem secOf_eq {w : World} {t : Nat} {x z : Value} {e : Int} (h : Own3 w t x (.int .i64 e) z) : secOf t w = e := by unfold secOf; rw [h.k1]; rfl
theorem ms_facts (n : Int) : Cal.Y (n - Cal.D n + 1) = Cal.Y n ∧ Cal.M (n - Cal.D n + 1) = Cal.M n ∧ Cal.D (n - Cal.D n + 1) = 1 ∧ Cal.nm (n - Cal.D n + 1) = Cal.nm n := by
 have v := Cal.date_valid n
 have g := Cal.nm_gt n
 have h := Cal.in_month (n := n) (u := n - Cal.D n + 1) (by omega) (by have := v.2.2.1; omega)
 refine ⟨h.1, h.2.1, by rw [h.2.2]; omega, ?_⟩
 unfold Cal.nm
 rw [h.1, h.2.1, h.2.2]; omega
theorem ms_least {n : Int} (h : 1 ≤ Cal.Y n) : -719162 ≤ n - Cal.D n + 1 := by
 have h2 := ms_facts n
 have b := (Cal.Y_bounds (n - Cal.D n + 1)).1
 rw [h2.1] at b
 unfold Cal.ys at b
 omega
theorem bits_nonneg (a b : Int) : 0 ≤ bits .and .u64 a b := by
 have : ∀ x, 0 ≤ IntKind.u64.wrap x := fun x => by have : IntKind.u64.wrap x = x % 18446744073709551616 := by simp [IntKind.wrap, IntKind.bits, IntKind.signed]
                                                   rw [this]; omega
 unfold bits
 exact this _
theorem year_below {n L : Int} (h : Cal.Y n ≤ L) (hL : L ≤ 27400) : n ≤ 9300000 := by
 have a := (Cal.Y_bounds n).2
 have : Cal.ys (Cal.Y n + 1) ≤ 9300000 := by unfold Cal.ys; omega
 omega
theorem year_least {n : Int} (h : n ≤ 9259261) : Cal.Y n ≤ 27380 := by
 have a := (Cal.Y_bounds n).1
 unfold Cal.ys at a
 omega
end Go.Proofs.YtcjdideliifkhaaGreatDoor
