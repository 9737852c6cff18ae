import Derived.Test.YtcjdideliifkhaaGreatDoorA13
set_option maxRecDepth 100000
set_option maxHeartbeats 16000000
namespace Go.Proofs.YtcjdideliifkhaaGreatDoor
open Go.RowKit
set_option linter.unusedVariables false
set_option linter.unusedSimpArgs false
theorem isZero_no (ns e : Int) (l : Value) (hl : ∃ p, l = .pointer p) (h : ¬ (ns = 0 ∧ e = 0)) (w : World) :
  Calls Tryz.prog 65 #[tm ns e l] w fun r w' => r = .returned (.bool false) ∧ Below w.heap.size w w' := by
 have := isZero_c ns e l hl w; rw [decide_eq_false h] at this; exact this
theorem isZero_yes (l : Value) (hl : ∃ p, l = .pointer p) (w : World) :
  Calls Tryz.prog 65 #[tm 0 0 l] w fun r w' => r = .returned (.bool true) ∧ Below w.heap.size w w' := by
 have := isZero_c 0 0 l hl w; rw [decide_eq_true ⟨rfl, rfl⟩] at this; exact this
abbrev inst (s ns : Int) : Value := .agg #[.int .i64 s, .int .i64 ns]
theorem wrap_i64 {n : Int} (h0 : -9223372036854775808 ≤ n) (h1 : n ≤ 9223372036854775807) : wrap64 n = n := by unfold wrap64; omega
theorem unixTime_c (s ns : Int) (h0 : 0 ≤ ns) (h1 : ns < 1000000000) (hs0 : -4611686018427387904 ≤ s) (hs1 : s ≤ 4611686018427387904) (w : World) :
  Calls Tryz.prog 99 #[.int .i64 s, .int .i32 ns] w fun r w' => r = .returned (tm ns (s + 62135596800) (.pointer none)) ∧ Below w.heap.size w w' := by
 go_enter Tryz.func99, Tryz.ntmps99
 go_wp2
 exact bodyPost_ret (v := tm ns (s + 62135596800) (.pointer none)) (by simp [results, Tryz.f99, go_sem]) rfl ⟨rfl, (Below.refl _ _).alloc (Nat.le_refl _) _⟩
theorem unixMake_c (s ns : Int) (h0 : 0 ≤ ns) (h1 : ns < 1000000000) (hs0 : -4611686018427387904 ≤ s) (hs1 : s ≤ 4611686018427387904) (w : World) :
  Calls Tryz.prog 67 #[.int .i64 s, .int .i64 ns] w fun r w' => r = .returned (tm ns (s + 62135596800) (.pointer none)) ∧ Below w.heap.size w w' := by
 go_enter Tryz.func67, Tryz.ntmps67
 go_wp2_with fail
 refine (unixTime_c s ns h0 h1 hs0 hs1 _).mono ?_
 rintro e w1 ⟨rfl, hb⟩
 obtain ⟨hc, hf⟩ := bcell hb
 have hz : w.heap.size < w1.heap.size := by have := hb.size; simp at this; omega
 go_wp2
 exact bodyPost_ret (v := tm ns (s + 62135596800) (.pointer none)) (by simp [results, Tryz.f67, go_sem, hc, hz]) rfl
  ⟨rfl, ((((Below.refl _ _).alloc (Nat.le_refl _) _).trans (hb.mono (by simp))).setCell (by simp) _ |>.setCell (by simp) _).setCell (by simp) _⟩
theorem moment_utc (s ns : Int) (h0 : 0 ≤ ns) (h1 : ns < 1000000000) (hs0 : -4611686018427387904 ≤ s) (hs1 : s ≤ 4611686018427387904) (u : Nat) (w : World) (hu : IsUTC w u) :
  Calls Tryz.prog 32 #[inst s ns, .pointer (some ⟨u, 0, none⟩)] w fun r w' => r = .returned (tm ns (s + 62135596800) (.pointer none)) ∧ Below w.heap.size w w' := by
 have hus := hu.size
 go_enter Tryz.func32, Tryz.ntmps32
 go_wp2_with fail
 refine (unixMake_c s ns h0 h1 hs0 hs1 _).mono ?_
 rintro e w1 ⟨rfl, hb⟩
 obtain ⟨hc, hf⟩ := bcell hb
 have hz : w.heap.size + 1 < w1.heap.size := by have := hb.size; simp at this; omega
 have hB : Below w.heap.size w w1 := (((Below.refl _ _).alloc (Nat.le_refl _) _).alloc (by simp) _).trans (hb.mono (by simp; omega))
 go_wp2_with fail
 refine (in_utc ns _ _ ⟨_, rfl⟩ h0 h1 u _ (hu.below hB)).mono ?_
 rintro e w2 ⟨rfl, hb2⟩
 obtain ⟨hc2, hf2⟩ := bcell hb2
 have hz2 : w.heap.size + 1 < w2.heap.size := by have := hb2.size; omega
 go_wp2
 exact bodyPost_ret (v := tm ns (s + 62135596800) (.pointer none)) (by simp [results, Tryz.f32, go_sem, hc, hc2, hz, hz2]) rfl
  ⟨rfl, ((hB.trans (hb2.mono (by omega))).setCell (by simp) _ |>.setCell (by simp) _).setCell (by simp) _⟩
theorem moment_zone (s ns : Int) (h0 : 0 ≤ ns) (h1 : ns < 1000000000) (hs0 : -4611686018427387904 ≤ s) (hs1 : s ≤ 4611686018427387904) (u : Nat) (w : World) (hus : u < w.heap.size) (hu : w.cell? ⟨u, 0, none⟩ = some (.bool false)) :
  Calls Tryz.prog 32 #[inst s ns, .pointer (some ⟨u, 0, none⟩)] w fun r w' => r = .returned (tm ns (s + 62135596800) (.pointer (some ⟨u, 0, none⟩))) ∧ Below w.heap.size w w' := by
 go_enter Tryz.func32, Tryz.ntmps32
 go_wp2_with fail
 refine (unixMake_c s ns h0 h1 hs0 hs1 _).mono ?_
 rintro e w1 ⟨rfl, hb⟩
 obtain ⟨hc, hf⟩ := bcell hb
 have hz : w.heap.size + 1 < w1.heap.size := by have := hb.size; simp at this; omega
 have hB : Below w.heap.size w w1 := (((Below.refl _ _).alloc (Nat.le_refl _) _).alloc (by simp) _).trans (hb.mono (by simp; omega))
 go_wp2_with fail
 refine (in_zone ns _ _ ⟨_, rfl⟩ h0 h1 u _ (by omega) (by rw [hB.cell (p := ⟨u, 0, none⟩) hus]; exact hu)).mono ?_
 rintro e w2 ⟨rfl, hb2⟩
 obtain ⟨hc2, hf2⟩ := bcell hb2
 have hz2 : w.heap.size + 1 < w2.heap.size := by have := hb2.size; omega
 go_wp2
 exact bodyPost_ret (v := tm ns (s + 62135596800) (.pointer (some ⟨u, 0, none⟩))) (by simp [results, Tryz.f32, go_sem, hc, hc2, hz, hz2]) rfl
  ⟨rfl, ((hB.trans (hb2.mono (by omega))).setCell (by simp) _ |>.setCell (by simp) _).setCell (by simp) _⟩
theorem answer_some (ns e : Int) (l : Value) (hl : ∃ p, l = .pointer p) (h0 : 0 ≤ ns) (h1 : ns < 1000000000) (hs0 : 0 < e) (hs1 : e ≤ 4611686018427387904) (w : World) :
  Calls Tryz.prog 31 #[tm ns e l] w fun r w' => r = .returned (.tuple #[inst (e - 62135596800) ns, .bool true]) ∧ Below w.heap.size w w' := by
 have hl' := hl
 obtain ⟨p, rfl⟩ := hl
 go_enter Tryz.func31, Tryz.ntmps31
 go_wp2_with fail
 refine (isZero_no ns e _ hl' (by omega) _).mono ?_
 rintro r w1 ⟨rfl, hb⟩
 obtain ⟨hc, hf⟩ := bcell hb
 have hz : w.heap.size + 1 < w1.heap.size := by have := hb.size; simp at this; omega
 have hB : Below w.heap.size w w1 := (((Below.refl _ _).alloc (Nat.le_refl _) _).alloc (by simp) _).trans (hb.mono (by simp; omega))
 go_wp2_with fail
 refine (plainMoment_c ns e _ hl' h0 h1 (by omega) hs1 _).mono ?_
 rintro r w2 ⟨rfl, hb2⟩
 obtain ⟨hc2, hf2⟩ := bcell hb2
 have hz2 : w.heap.size + 1 < w2.heap.size := by have := hb2.size; omega
 go_wp2
 exact bodyPost_ret (v := .tuple #[inst (e - 62135596800) ns, .bool true]) (by simp [results, Tryz.f31, go_sem, hc, hc2, hz, hz2]) rfl
  ⟨rfl, (hB.trans (hb2.mono (by omega))).setCell (by simp) _ |>.setCell (by simp) _⟩
theorem answer_none (l : Value) (hl : ∃ p, l = .pointer p) (w : World) :
  Calls Tryz.prog 31 #[tm 0 0 l] w fun r w' => r = .returned (.tuple #[inst 0 0, .bool false]) ∧ Below w.heap.size w w' := by
 have hl' := hl
 obtain ⟨p, rfl⟩ := hl
 go_enter Tryz.func31, Tryz.ntmps31
 go_wp2_with fail
 refine (isZero_yes _ hl' _).mono ?_
 rintro r w1 ⟨rfl, hb⟩
 obtain ⟨hc, hf⟩ := bcell hb
 have hz : w.heap.size + 1 < w1.heap.size := by have := hb.size; simp at this; omega
 have hB : Below w.heap.size w w1 := (((Below.refl _ _).alloc (Nat.le_refl _) _).alloc (by simp) _).trans (hb.mono (by simp; omega))
 go_wp2
 exact bodyPost_ret (v := .tuple #[inst 0 0, .bool false]) (by simp [results, Tryz.f31, go_sem, hc, hz]) rfl
  ⟨rfl, hB.setCell (by simp) _ |>.setCell (by simp) _⟩
theorem addSec_c (b o : Nat) (n s d : Int) (h0 : 0 ≤ n) (h1 : n < 1000000000) (hs0 : -2305843009213693952 ≤ s) (hs1 : s ≤ 2305843009213693952) (hd0 : -2305843009213693952 ≤ d) (hd1 : d ≤ 2305843009213693952) (w : World)
  (h : w.cell? ⟨b, o, none⟩ = some (.int .u64 n)) (hs : w.cell? ⟨b, o + 1, none⟩ = some (.int .i64 s)) (hf : w.frozen? ⟨b, o + 1, none⟩ = false) :
  Calls Tryz.prog 218 #[.pointer (some ⟨b, o, none⟩), .int .i64 d] w fun e w' => e = .returned (.tuple #[]) ∧ w.setCell ⟨b, o + 1, none⟩ (.int .i64 (s + d)) = w' := by
 have h2 := and_mono h0 h1
 by_cases c : 0 < d
 ·have c2 : s < s + d := by omega
  go_enter Tryz.func218, Tryz.ntmps218
  go_wp2
  exact bodyPost_end (v := .tuple #[]) (by simp [results, Tryz.f218, go_sem]) rfl ⟨rfl, rfl⟩
 ·have c2 : ¬ s < s + d := by omega
  go_enter Tryz.func218, Tryz.ntmps218
  go_wp2
  exact bodyPost_end (v := .tuple #[]) (by simp [results, Tryz.f218, go_sem]) rfl ⟨rfl, rfl⟩
theorem add_c (ns e k d : Int) (l : Value) (hl : ∃ p, l = .pointer p) (h0 : 0 ≤ ns) (h1 : ns < 1000000000) (hk : d = k * 1000000000 - ns) (hd0 : 0 ≤ d) (hd1 : d ≤ 9223372036854775807) (hs0 : -1152921504606846976 ≤ e) (hs1 : e ≤ 1152921504606846976) (w : World) :
  Calls Tryz.prog 204 #[tm ns e l, .int .i64 d] w fun r w' => r = .returned (tm 0 (e + k) l) ∧ Below w.heap.size w w' := by
 obtain ⟨p, rfl⟩ := hl
 have hkb : 0 ≤ k ∧ k ≤ 1152921504606846976 := by omega
 obtain ⟨hk0, hk1⟩ := hkb
 by_cases c : ns = 0
 ·subst c
  have hq : d / 1000000000 = k := by omega
  have hr : d % 1000000000 = 0 := by omega
  clear hk
  have b1 : bits .andNot .u64 0 1073741823 = 0 := by decide +kernel
  have b2 : bits .or .u64 0 0 = 0 := by decide +kernel
  have b3 : bits .and .u64 0 9223372036854775808 = 0 := by decide +kernel
  go_enter Tryz.func204, Tryz.ntmps204
  go_wp2_with (first
   | (go_at_call 126; refine (nsec_c _ _ 0 (by decide) (by decide) _ (by simp [go_sem])).mono ?_; rintro r w' ⟨rfl, rfl⟩)
   | (go_at_call 218; refine (addSec_c _ _ 0 e k (by decide) (by decide) (by omega) (by omega) (by omega) (by omega) _ (by simp [go_sem, b2]) (by simp [go_sem]) (by simp [go_sem])).mono ?_; rintro r w' ⟨rfl, rfl⟩))
  exact bodyPost_ret (v := tm 0 (e + k) (.pointer p)) (by simp [results, Tryz.f204, go_sem]) rfl
   ⟨rfl, by repeat (first | exact Below.refl _ _ | refine Below.setCell ?_ (by simp) _ | refine Below.alloc ?_ (by simp) _)⟩
 ·have hq : d / 1000000000 = k - 1 := by omega
  have hr : d % 1000000000 = 1000000000 - ns := by omega
  have hr2 : ns + (1000000000 - ns) = 1000000000 := by omega
  have hk2 : k - 1 + 1 = k := by omega
  have hk3 : 0 < k := by omega
  clear hk
  have b1 := not_nsec h0 h1
  have b2 : bits .or .u64 0 0 = 0 := by decide +kernel
  have b3 : bits .and .u64 0 9223372036854775808 = 0 := by decide +kernel
  go_enter Tryz.func204, Tryz.ntmps204
  go_wp2_with (first
   | (go_at_call 126; refine (nsec_c _ _ ns h0 h1 _ (by simp [go_sem])).mono ?_; rintro r w' ⟨rfl, rfl⟩)
   | (go_at_call 218; refine (addSec_c _ _ 0 e k (by decide) (by decide) (by omega) (by omega) (by omega) (by omega) _ (by simp [go_sem, b2]) (by simp [go_sem]) (by simp [go_sem])).mono ?_; rintro r w' ⟨rfl, rfl⟩))
  exact bodyPost_ret (v := tm 0 (e + k) (.pointer p)) (by simp [results, Tryz.f204, go_sem]) rfl
   ⟨rfl, by repeat (first | exact Below.refl _ _ | refine Below.setCell ?_ (by simp) _ | refine Below.alloc ?_ (by simp) _)⟩
theorem add_back (e k d : Int) (l : Value) (hl : ∃ p, l = .pointer p) (hk : d = - (k * 1000000000)) (hk0 : 0 ≤ k) (hk1 : k ≤ 3600) (hs0 : -1152921504606846976 ≤ e) (hs1 : e ≤ 1152921504606846976) (w : World) :
  Calls Tryz.prog 204 #[tm 0 e l, .int .i64 d] w fun r w' => r = .returned (tm 0 (e + -k) l) ∧ Below w.heap.size w w' := by
 by_cases c : k = 0
 ·subst c
  have : d = 0 := by omega
  subst this
  have := add_c 0 e 0 0 l hl (by decide) (by decide) (by decide) (by decide) (by decide) hs0 hs1 w
  simpa using this
 obtain ⟨p, rfl⟩ := hl
 have hd0 : d < 0 := by omega
 have hd1 : -4000000000000 ≤ d := by omega
 have hq : d.tdiv 1000000000 = -k := by rw [hk, Int.neg_tdiv, Int.mul_tdiv_cancel _ (by decide)]
 have hr : d.tmod 1000000000 = 0 := by rw [hk, Int.neg_tmod, Int.mul_tmod_left]; rfl
 clear hk
 have b1 : bits .andNot .u64 0 1073741823 = 0 := by decide +kernel
 have b2 : bits .or .u64 0 0 = 0 := by decide +kernel
 have b3 : bits .and .u64 0 9223372036854775808 = 0 := by decide +kernel
 go_enter Tryz.func204, Tryz.ntmps204
 go_wp2_with (first
   | (go_at_call 126; refine (nsec_c _ _ 0 (by decide) (by decide) _ (by simp [go_sem])).mono ?_; rintro r w' ⟨rfl, rfl⟩)
   | (go_at_call 218; refine (addSec_c _ _ 0 e (-k) (by decide) (by decide) (by omega) (by omega) (by omega) (by omega) _ (by simp [go_sem, b2]) (by simp [go_sem]) (by simp [go_sem])).mono ?_; rintro r w' ⟨rfl, rfl⟩))
 exact bodyPost_ret (v := tm 0 (e + -k) (.pointer p)) (by simp [results, Tryz.f204, go_sem]) rfl
   ⟨rfl, by repeat (first | exact Below.refl _ _ | refine Below.setCell ?_ (by simp) _ | refine Below.alloc ?_ (by simp) _)⟩
theorem div_minute (e : Int) (l : Value) (hl : ∃ p, l = .pointer p) (hs0 : 0 ≤ e) (hs1 : e ≤ 1152921504606846976) (w : World) :
  Calls Tryz.prog 228 #[tm 0 e l, .int .i64 60000000000] w fun r w' => (∃ q : Int, r = .returned (.tuple #[.int .i64 q, .int .i64 (e % 60 * 1000000000)])) ∧ Below w.heap.size w w' := by
 obtain ⟨p, rfl⟩ := hl
 go_enter Tryz.func228, Tryz.ntmps228
 go_wp2_with (first
   | (go_at_call 126; refine (nsec_c _ _ 0 (by decide) (by decide) _ (by simp [go_sem])).mono ?_; rintro r w' ⟨rfl, rfl⟩)
   | (go_at_call 147; refine (sec_c _ _ 0 e (by decide) (by decide) _ (by simp [go_sem]) (by simp [go_sem])).mono ?_; rintro r w' ⟨rfl, rfl⟩))
 go_ret2
 exact ⟨⟨_, rfl⟩, by repeat (first | exact Below.refl _ _ | refine Below.setCell ?_ (by simp) _ | refine Below.alloc ?_ (by simp) _)⟩
theorem wrap_u64_i64 {x : Int} (h0 : 0 ≤ x) (h1 : x < 18446744073709551616) : IntKind.u64.wrap (wrap64 x) = x := by
 have : IntKind.u64.wrap (wrap64 x) = wrap64 x % 18446744073709551616 := by simp [IntKind.wrap, IntKind.bits, IntKind.signed]
 rw [this]; unfold wrap64; omega
theorem div_second (e : Int) (l : Value) (hl : ∃ p, l = .pointer p) (hs0 : 0 ≤ e) (hs1 : e ≤ 1152921504606846976) (w : World) :
  Calls Tryz.prog 228 #[tm 0 e l, .int .i64 1000000000] w fun r w' => (∃ q : Int, r = .returned (.tuple #[.int .i64 q, .int .i64 0])) ∧ Below w.heap.size w w' := by
 obtain ⟨p, rfl⟩ := hl
 go_enter Tryz.func228, Tryz.ntmps228
 go_wp2_with (first
   | (go_at_call 126; refine (nsec_c _ _ 0 (by decide) (by decide) _ (by simp [go_sem])).mono ?_; rintro r w' ⟨rfl, rfl⟩)
   | (go_at_call 147; refine (sec_c _ _ 0 e (by decide) (by decide) _ (by simp [go_sem]) (by simp [go_sem])).mono ?_; rintro r w' ⟨rfl, rfl⟩))
 go_ret2
 refine ⟨⟨bits .and .i64 e 1, ?_⟩, by repeat (first | exact Below.refl _ _ | refine Below.setCell ?_ (by simp) _ | refine Below.alloc ?_ (by simp) _)⟩
 rfl
theorem truncate_minute (e : Int) (l : Value) (hl : ∃ p, l = .pointer p) (hs0 : 0 ≤ e) (hs1 : e ≤ 1152921504606846976) (w : World) :
  Calls Tryz.prog 212 #[tm 0 e l, .int .i64 60000000000] w fun r w' => r = .returned (tm 0 (e + -(e % 60)) l) ∧ Below w.heap.size w w' := by
 have hl' := hl
 obtain ⟨p, rfl⟩ := hl
 have hm : 0 ≤ e % 60 ∧ e % 60 < 60 := by omega
 generalize hmm : e % 60 = m at hm ⊢
 go_enter Tryz.func212, Tryz.ntmps212
 go_wp2_with (go_at_call 127; refine (stripMono_c _ _ 0 (by decide) (by decide) _ (by simp [go_sem])).mono ?_; rintro r w' ⟨rfl, rfl⟩)
 refine (div_minute e _ hl' hs0 hs1 _).mono ?_
 rintro r w1 ⟨⟨q, rfl⟩, hb⟩
 rw [hmm]
 obtain ⟨hc, hf⟩ := bcell hb
 have hz : w.heap.size + 1 < w1.heap.size := by have := hb.size; simp at this; omega
 have hB : Below w.heap.size w w1 := (((Below.refl _ _).alloc (Nat.le_refl _) _).alloc (by simp) _).trans (hb.mono (by simp; omega))
 go_wp2_with fail
 refine (add_back e m _ _ hl' rfl hm.1 (by omega) (by omega) hs1 _).mono ?_
 rintro r w2 ⟨rfl, hb2⟩
 obtain ⟨hc2, hf2⟩ := bcell hb2
 have hz2 : w.heap.size + 1 < w2.heap.size := by have := hb2.size; omega
 go_wp2
 exact bodyPost_ret (v := tm 0 (e + -m) (.pointer p)) (by simp [results, Tryz.f212, go_sem, hc, hc2, hz, hz2]) rfl
  ⟨rfl, ((hB.trans (hb2.mono (by omega))).setCell (by simp) _ |>.setCell (by simp) _).setCell (by simp) _⟩
theorem truncate_second (e : Int) (l : Value) (hl : ∃ p, l = .pointer p) (hs0 : 0 ≤ e) (hs1 : e ≤ 1152921504606846976) (w : World) :
  Calls Tryz.prog 212 #[tm 0 e l, .int .i64 1000000000] w fun r w' => r = .returned (tm 0 e l) ∧ Below w.heap.size w w' := by
 have hl' := hl
 obtain ⟨p, rfl⟩ := hl
 go_enter Tryz.func212, Tryz.ntmps212
 go_wp2_with (go_at_call 127; refine (stripMono_c _ _ 0 (by decide) (by decide) _ (by simp [go_sem])).mono ?_; rintro r w' ⟨rfl, rfl⟩)
 refine (div_second e _ hl' hs0 hs1 _).mono ?_
 rintro r w1 ⟨⟨q, rfl⟩, hb⟩
 obtain ⟨hc, hf⟩ := bcell hb
 have hz : w.heap.size + 1 < w1.heap.size := by have := hb.size; simp at this; omega
 have hB : Below w.heap.size w w1 := (((Below.refl _ _).alloc (Nat.le_refl _) _).alloc (by simp) _).trans (hb.mono (by simp; omega))
 go_wp2_with fail
 refine (add_c 0 e 0 0 _ hl' (by decide) (by decide) (by decide) (by decide) (by decide) (by omega) hs1 _).mono ?_
 rw [show e + 0 = e by omega]
 rintro r w2 ⟨rfl, hb2⟩
 obtain ⟨hc2, hf2⟩ := bcell hb2
 have hz2 : w.heap.size + 1 < w2.heap.size := by have := hb2.size; omega
 go_wp2
 exact bodyPost_ret (v := tm 0 e (.pointer p)) (by simp [results, Tryz.f212, go_sem, hc, hc2, hz, hz2]) rfl
  ⟨rfl, ((hB.trans (hb2.mono (by omega))).setCell (by simp) _ |>.setCell (by simp) _).setCell (by simp) _⟩
theorem absSec_c (ns e : Int) (h0 : 0 ≤ ns) (h1 : ns < 1000000000) (hs0 : -100000000000000 ≤ e) (hs1 : e ≤ 100000000000000) (w : World) :
  Calls Tryz.prog 214 #[tm ns e (.pointer none)] w fun r w' => r = .returned (.int .u64 (e + 9223371966606163200)) ∧ Below w.heap.size w w' := by
 go_enter Tryz.func214, Tryz.ntmps214
 go_wp2_with fail
 refine (get_c _).mono ?_
 rintro r w1 ⟨rfl, hu, hb⟩
 obtain ⟨hc, hf⟩ := bcell hb
 have hz : w.heap.size < w1.heap.size := by have := hb.size; simp at this; omega
 have hB : Below w.heap.size w w1 := ((Below.refl _ _).alloc (Nat.le_refl _) _).trans (hb.mono (by simp))
 have hu1 := hu.utc
 simp at hu1
 go_wp2_with fail
 refine (unixSec_c _ _ ns e h0 h1 (by omega) (by omega) _ (by simp [go_sem, hc, hz]) (by simp [go_sem, hc, hz])).mono ?_
 rintro r w2 ⟨rfl, rfl⟩
 go_wp2
 go_ret
 refine ⟨?_, hB⟩
 rw [← wrap_u64_i64 (x := e + 9223371966606163200) (by omega) (by omega), show e + 9223371966606163200 = e - 62135596800 + 9223372028741760000 by omega]
 rfl
end Go.Proofs.YtcjdideliifkhaaGreatDoor
namespace Go.Proofs.YtcjdideliifkhaaGreatDoor.Cal
def ys (y : Int) : Int := 365 * (y - 1) + (y - 1) / 4 - (y - 1) / 100 + (y - 1) / 400 - 719162
def leap (y : Int) : Bool := y % 4 == 0 && (y % 100 != 0 || y % 400 == 0)
def mdays (y m : Int) : Int := if m = 2 then (if leap y then 29 else 28) else if m = 4 ∨ m = 6 ∨ m = 9 ∨ m = 11 then 30 else 31
def before (y m : Int) : Int :=
 let l : Int := if leap y then 1 else 0
 if m ≤ 1 then 0 else if m = 2 then 31 else if m = 3 then 59 + l else if m = 4 then 90 + l else if m = 5 then 120 + l else if m = 6 then 151 + l
 else if m = 7 then 181 + l else if m = 8 then 212 + l else if m = 9 then 243 + l else if m = 10 then 273 + l else if m = 11 then 304 + l else if m = 12 then 334 + l else 365 + l
def day (y m d : Int) : Int := ys y + before y m + d - 1
def Valid (y m d : Int) : Prop := 1 ≤ m ∧ m ≤ 12 ∧ 1 ≤ d ∧ d ≤ mdays y m
theorem leap_iff (y : Int) : leap y = true ↔ y % 4 = 0 ∧ (y % 100 ≠ 0 ∨ y % 400 = 0) := by
 simp [leap]
theorem ys_succ (y : Int) : ys (y + 1) = ys y + (if leap y then 366 else 365) := by
 cases h : leap y with
 | true => have := (leap_iff y).1 h; simp only [ys, if_true]; omega
 | false =>
  have : ¬ (y % 4 = 0 ∧ (y % 100 ≠ 0 ∨ y % 400 = 0)) := fun hh => by rw [(leap_iff y).2 hh] at h; cases h
  simp only [ys, Bool.false_eq_true, if_false]; omega
theorem before_succ (y m : Int) (h1 : 1 ≤ m) (h2 : m ≤ 12) : before y (m + 1) = before y m + mdays y m := by
 have : m = 1 ∨ m = 2 ∨ m = 3 ∨ m = 4 ∨ m = 5 ∨ m = 6 ∨ m = 7 ∨ m = 8 ∨ m = 9 ∨ m = 10 ∨ m = 11 ∨ m = 12 := by omega
 rcases this with rfl | rfl | rfl | rfl | rfl | rfl | rfl | rfl | rfl | rfl | rfl | rfl <;> cases h : leap y <;> simp [before, mdays, h] <;> omega
theorem before_13 (y : Int) : before y 13 = if leap y then 366 else 365 := by cases h : leap y <;> simp [before, h]
theorem before_1 (y : Int) : before y 1 = 0 := by simp [before]
theorem before_mono (y : Int) {m m' : Int} (h : m ≤ m') : before y m ≤ before y m' := by
 unfold before
 cases leap y <;> simp only [Bool.false_eq_true, if_false, if_true] <;> repeat' split
 all_goals omega
theorem before_lt (y : Int) {m m' : Int} (h0 : 1 ≤ m) (h1 : m ≤ 12) (h : m < m') : before y m + mdays y m ≤ before y m' := by
 rw [← before_succ y m h0 h1]; exact before_mono y (by omega)
theorem mdays_pos (y m : Int) : 28 ≤ mdays y m ∧ mdays y m ≤ 31 := by unfold mdays; repeat' split <;> omega
theorem ys_lt {y y' : Int} (h : y < y') : ys y + (if leap y then 366 else 365) ≤ ys y' := by
 rw [← ys_succ]; unfold ys; omega
theorem day_in {y m d : Int} (h : Valid y m d) : ys y ≤ day y m d ∧ day y m d < ys (y + 1) := by
 obtain ⟨h1, h2, h3, h4⟩ := h
 have a := before_mono y (show (1 : Int) ≤ m from h1)
 rw [before_1] at a
 have b := before_lt y h1 h2 (show m < 13 by omega)
 rw [before_13] at b
 rw [ys_succ]
 unfold day
 omega
theorem day_inj {y m d y' m' d' : Int} (h : Valid y m d) (h' : Valid y' m' d') (e : day y m d = day y' m' d') : y = y' ∧ m = m' ∧ d = d' := by
 have a := day_in h
 have b := day_in h'
 have hy : y = y' := by
  rcases Int.lt_trichotomy y y' with l | l | l
  ·have := ys_lt l; rw [← ys_succ] at this; omega
  ·exact l
  ·have := ys_lt l; rw [← ys_succ] at this; omega
 subst hy
 obtain ⟨h1, h2, h3, h4⟩ := h
 obtain ⟨g1, g2, g3, g4⟩ := h'
 unfold day at e
 have hm : m = m' := by
  rcases Int.lt_trichotomy m m' with l | l | l
  ·have := before_lt y h1 h2 l; omega
  ·exact l
  ·have := before_lt y g1 g2 l; omega
 subst hm
 exact ⟨rfl, rfl, by omega⟩
def mday (Y am d : Int) : Int := 365 * Y + Y / 4 - Y / 100 + Y / 400 + (153 * am - 457) / 5 + d - 1 - 719468
theorem mday_day (Y am d : Int) (h1 : 3 ≤ am) (h2 : am ≤ 14) : mday Y am d = day (Y + (if am > 12 then 1 else 0)) (if am > 12 then am - 12 else am) d := by
 have c : am = 3 ∨ am = 4 ∨ am = 5 ∨ am = 6 ∨ am = 7 ∨ am = 8 ∨ am = 9 ∨ am = 10 ∨ am = 11 ∨ am = 12 ∨ am = 13 ∨ am = 14 := by omega
 have hl : leap Y = true → Y % 4 = 0 ∧ (Y % 100 ≠ 0 ∨ Y % 400 = 0) := (leap_iff Y).1
 have hn : leap Y = false → ¬ (Y % 4 = 0 ∧ (Y % 100 ≠ 0 ∨ Y % 400 = 0)) := fun h hh => by rw [(leap_iff Y).2 hh] at h; cases h
 rcases c with rfl | rfl | rfl | rfl | rfl | rfl | rfl | rfl | rfl | rfl | rfl | rfl
 all_goals
  simp only [mday, day, ys, before]
  cases h : leap Y with
  | true => have := hl h; simp [h]; omega
  | false => have := hn h; simp [h]; omega
def cen (N : Int) : Int := (4 * N + 3) / 146097
def cdy (N : Int) : Int := (4 * N + 3) % 146097 / 4
def cyr (n : Int) : Int := (4 * n + 3) / 1461
def ydy (n : Int) : Int := (4 * n + 3) % 1461 / 4
def amo (yd : Int) : Int := (5 * yd + 461) / 153
def amd (yd : Int) : Int := (5 * yd + 461) % 153 / 5 + 1
theorem parts (N : Int) : N = 146097 * cen N / 4 + cdy N ∧ 0 ≤ cdy N ∧ cdy N ≤ 36524 := by unfold cen cdy; omega
theorem parts2 (n : Int) (h0 : 0 ≤ n) (h : n ≤ 36524) : n = 1461 * cyr n / 4 + ydy n ∧ 0 ≤ cyr n ∧ cyr n ≤ 99 ∧ 0 ≤ ydy n ∧ ydy n ≤ 365 := by unfold cyr ydy; omega
theorem parts3 (yd : Int) (h0 : 0 ≤ yd) (h : yd ≤ 365) : yd = (153 * amo yd - 457) / 5 + amd yd - 1 ∧ 3 ≤ amo yd ∧ amo yd ≤ 14 ∧ 1 ≤ amd yd ∧ amd yd ≤ 31 := by unfold amo amd; omega
def off : Int := 719468 + 106751990353932
def absYears : Int := 292277022400
def aY (N : Int) : Int := 100 * cen N + cyr (cdy N) - absYears
def aM (N : Int) : Int := amo (ydy (cdy N))
def aD (N : Int) : Int := amd (ydy (cdy N))
theorem year_parts (c cy : Int) (h0 : 0 ≤ cy) (h1 : cy ≤ 99) :
  (100 * c + cy - absYears) / 4 = 25 * c + cy / 4 - 73069255600 ∧ (100 * c + cy - absYears) / 100 = c - 2922770224 ∧ (100 * c + cy - absYears) / 400 = c / 4 - 730692556 := by
 unfold absYears; omega
theorem abs_mday (N : Int) : mday (aY N) (aM N) (aD N) = N - off := by
 have h1 := parts N
 have h2 := parts2 (cdy N) h1.2.1 h1.2.2
 have h3 := parts3 (ydy (cdy N)) h2.2.2.2.1 h2.2.2.2.2
 have hy := year_parts (cen N) (cyr (cdy N)) h2.2.1 h2.2.2.1
 unfold mday
 rw [show aY N = 100 * cen N + cyr (cdy N) - absYears from rfl, hy.1, hy.2.1, hy.2.2, show aM N = amo (ydy (cdy N)) from rfl, show aD N = amd (ydy (cdy N)) from rfl]
 have e1 := h1.1
 have e2 := h2.1
 have e3 := h3.1
 have b0 := h2.2.1
 clear h1 h2 h3 hy
 unfold off absYears
 generalize cyr (cdy N) = cy at *
 generalize ydy (cdy N) = yd at *
 generalize cdy N = n at *
 generalize cen N = c at *
 generalize (153 * amo yd - 457) / 5 = q at *
 generalize amd yd = md at *
 have f1 : 146097 * c / 4 = 36524 * c + c / 4 := by omega
 have f2 : 1461 * cy / 4 = 365 * cy + cy / 4 := by omega
 rw [f1] at e1
 rw [f2] at e2
 omega
def cY (N : Int) : Int := aY N + (if aM N > 12 then 1 else 0)
def cM (N : Int) : Int := if aM N > 12 then aM N - 12 else aM N
theorem abs_day (N : Int) : day (cY N) (cM N) (aD N) = N - off := by
 have h1 := parts N
 have h2 := parts2 (cdy N) h1.2.1 h1.2.2
 have h3 := parts3 (ydy (cdy N)) h2.2.2.2.1 h2.2.2.2.2
 rw [← abs_mday]
 exact (mday_day (aY N) (aM N) (aD N) h3.2.1 h3.2.2.1).symm
theorem leap_of (c cy : Int) (h0 : 0 ≤ cy) (h1 : cy ≤ 99) (h3 : cy % 4 = 3) (hc : cy = 99 → c % 4 = 3) :
  (100 * c + cy - absYears + 1) % 4 = 0 ∧ ((100 * c + cy - absYears + 1) % 100 ≠ 0 ∨ (100 * c + cy - absYears + 1) % 400 = 0) := by
 unfold absYears
 refine ⟨by omega, ?_⟩
 by_cases h : cy = 99
 ·have := hc h
  right; omega
 ·left; omega
theorem abs_valid (N : Int) : Valid (cY N) (cM N) (aD N) := by
 have h1 := parts N
 have h2 := parts2 (cdy N) h1.2.1 h1.2.2
 have h3 := parts3 (ydy (cdy N)) h2.2.2.2.1 h2.2.2.2.2
 have d4 : amo (ydy (cdy N)) = (5 * ydy (cdy N) + 461) / 153 := rfl
 have d5 : amd (ydy (cdy N)) = (5 * ydy (cdy N) + 461) % 153 / 5 + 1 := rfl
 have r3 : 3 ≤ aM N := h3.2.1
 have r14 : aM N ≤ 14 := h3.2.2.1
 have q1 : 1 ≤ aD N := h3.2.2.2.1
 have hm : (aM N ≤ 12 → cM N = aM N) ∧ (12 < aM N → cM N = aM N - 12) := by
  unfold cM; constructor <;> intro h
  ·rw [if_neg (by omega)]
  ·rw [if_pos (by omega)]
 refine ⟨by omega, by omega, q1, ?_⟩
 have hD : aD N ≤ (if aM N = 14 then 29 else if aM N = 4 ∨ aM N = 6 ∨ aM N = 9 ∨ aM N = 11 then 30 else 31) := by
  have e1 : aM N = amo (ydy (cdy N)) := rfl
  have e2 : aD N = amd (ydy (cdy N)) := rfl
  rw [e1, e2, d4, d5]
  have a0 := h2.2.2.2.1
  have a1 := h2.2.2.2.2
  clear h1 h2 h3 hm e1 e2 d4 d5 r3 r14 q1
  generalize ydy (cdy N) = yd at *
  split
  ·omega
  ·split <;> omega
 unfold mdays
 by_cases h14 : aM N = 14
 ·rw [if_pos h14] at hD
  rw [if_pos (by omega)]
  cases hl : leap (cY N) with
  | true => simpa using hD
  | false =>
   have hn : ¬ (cY N % 4 = 0 ∧ (cY N % 100 ≠ 0 ∨ cY N % 400 = 0)) := fun hh => by rw [(leap_iff _).2 hh] at hl; cases hl
   have hY : cY N = 100 * cen N + cyr (cdy N) - absYears + 1 := by unfold cY; rw [if_pos (by omega)]; rfl
   suffices h : aD N ≠ 29 by simp; omega
   intro h29
   apply hn
   have y365 : ydy (cdy N) = 365 := by
    have e1 : aM N = amo (ydy (cdy N)) := rfl
    have e2 : aD N = amd (ydy (cdy N)) := rfl
    rw [e1, d4] at h14
    rw [e2, d5] at h29
    have := h2.2.2.2.2
    clear h1 h2 h3 hm d4 d5 r3 r14 q1 hD hl hn hY
    omega
   have d3 : ydy (cdy N) = (4 * cdy N + 3) % 1461 / 4 := rfl
   have d2 : cyr (cdy N) = (4 * cdy N + 3) / 1461 := rfl
   have d1 : cdy N = (4 * N + 3) % 146097 / 4 := rfl
   have d0 : cen N = (4 * N + 3) / 146097 := rfl
   have c3 : cyr (cdy N) % 4 = 3 := by
    rw [y365] at d3
    have := h1.2.1
    clear h1 h2 h3 hm d4 d5 r3 r14 q1 hD hl hn hY d1 d0
    generalize cdy N = n at *
    omega
   have b0 := h2.2.1
   have b9 := h2.2.2.1
   have cc : cyr (cdy N) = 99 → cen N % 4 = 3 := by
    intro h99
    have n1 : cdy N = 36524 := by
     have e2 := h2.1
     have := h1.2.2
     rw [h99, y365] at e2
     omega
    rw [n1] at d1
    clear h1 h2 h3 hm d4 d5 r3 r14 q1 hD hl hn hY d2 d3
    omega
   rw [hY]
   exact leap_of _ _ b0 b9 c3 cc
 ·rw [if_neg h14] at hD
  by_cases h12 : aM N ≤ 12
  ·have e := hm.1 h12
   rw [e, if_neg (by omega)]
   exact hD
  ·have e := hm.2 (by omega)
   rw [if_neg (by omega), if_neg (by omega)]
   rw [if_neg (by omega)] at hD
   exact hD
def Y (n : Int) : Int := cY (n + off)
def M (n : Int) : Int := cM (n + off)
def D (n : Int) : Int := aD (n + off)
def W (n : Int) : Int := (n + 4) % 7
theorem date_day (n : Int) : day (Y n) (M n) (D n) = n := by
 have := abs_day (n + off); unfold Y M D; omega
theorem date_valid (n : Int) : Valid (Y n) (M n) (D n) := abs_valid (n + off)
theorem date_of {y m d : Int} (h : Valid y m d) : Y (day y m d) = y ∧ M (day y m d) = m ∧ D (day y m d) = d :=
 day_inj (date_valid _) h (date_day _)
theorem date_at {n y m d : Int} (h : Valid y m d) (e : day y m d = n) : Y n = y ∧ M n = m ∧ D n = d := by subst e; exact date_of h
theorem day_add (y m d k : Int) : day y m (d + k) = day y m d + k := by unfold day; omega
theorem day_13 (y d : Int) : day y 13 d = day (y + 1) 1 d := by
 unfold day; rw [before_13, before_1, ys_succ]; omega
theorem day_next {y m : Int} (h1 : 1 ≤ m) (h2 : m ≤ 12) (d : Int) : day y (m + 1) d = day y m (d + mdays y m) := by
 unfold day; rw [before_succ y m h1 h2]; omega
theorem tomorrow (n : Int) : (D n < mdays (Y n) (M n) → Y (n + 1) = Y n ∧ M (n + 1) = M n ∧ D (n + 1) = D n + 1) ∧
  (¬ D n < mdays (Y n) (M n) → M n < 12 → Y (n + 1) = Y n ∧ M (n + 1) = M n + 1 ∧ D (n + 1) = 1) ∧
  (¬ D n < mdays (Y n) (M n) → ¬ M n < 12 → Y (n + 1) = Y n + 1 ∧ M (n + 1) = 1 ∧ D (n + 1) = 1) := by
 have v := date_valid n
 have e := date_day n
 have p := mdays_pos (Y n) (M n + 1)
 have p' := mdays_pos (Y n + 1) 1
 obtain ⟨v1, v2, v3, v4⟩ := v
 refine ⟨fun h => date_at ⟨v1, v2, by omega, by omega⟩ (by rw [day_add, e]), fun h h' => date_at ⟨by omega, by omega, by omega, by omega⟩ ?_, fun h h' => date_at ⟨by omega, by omega, by omega, by omega⟩ ?_⟩
 ·rw [day_next v1 v2, show 1 + mdays (Y n) (M n) = D n + 1 by omega, day_add, e]
 ·rw [← day_13, show (13 : Int) = M n + 1 by omega, day_next v1 v2, show 1 + mdays (Y n) (M n) = D n + 1 by omega, day_add, e]
theorem Y_bounds (n : Int) : ys (Y n) ≤ n ∧ n < ys (Y n + 1) := by
 have := day_in (date_valid n); rw [date_day] at this; exact this
theorem Y_mono {n m : Int} (h : n ≤ m) : Y n ≤ Y m := by
 have a := Y_bounds n
 have b := Y_bounds m
 by_cases c : Y m < Y n
 ·have : ys (Y m + 1) ≤ ys (Y n) := by
   rcases Int.lt_or_eq_of_le (show Y m + 1 ≤ Y n by omega) with c | c
   ·have := ys_lt c; split at this <;> omega
   ·rw [c]; exact Int.le_refl _
  omega
 ·omega
def nm (n : Int) : Int := n - D n + 1 + mdays (Y n) (M n)
theorem nm_gt (n : Int) : n < nm n ∧ nm n ≤ n + 31 := by
 have v := date_valid n
 have p := mdays_pos (Y n) (M n)
 obtain ⟨v1, v2, v3, v4⟩ := v
 unfold nm; omega
theorem nm_day (n : Int) : nm n = day (Y n) (M n + 1) 1 := by
 have v := date_valid n
 have e := date_day n
 rw [day_next v.1 v.2.1, show 1 + mdays (Y n) (M n) = D n + (1 - D n + mdays (Y n) (M n)) by omega, day_add, e]
 unfold nm; omega
theorem nm_date (n : Int) : (M n < 12 → Y (nm n) = Y n ∧ M (nm n) = M n + 1 ∧ D (nm n) = 1) ∧ (M n = 12 → Y (nm n) = Y n + 1 ∧ M (nm n) = 1 ∧ D (nm n) = 1) := by
 have v := date_valid n
 have p := mdays_pos (Y n) (M n + 1)
 have p' := mdays_pos (Y n + 1) 1
 obtain ⟨v1, v2, v3, v4⟩ := v
 refine ⟨fun h => date_at ⟨by omega, by omega, by omega, by omega⟩ (nm_day n).symm, fun h => date_at ⟨by omega, by omega, by omega, by omega⟩ ?_⟩
 rw [nm_day n, h]; exact (day_13 _ _).symm
theorem in_month {n u : Int} (h : n - D n + 1 ≤ u) (h' : u < nm n) : Y u = Y n ∧ M u = M n ∧ D u = u - n + D n := by
 have v := date_valid n
 have e := date_day n
 obtain ⟨v1, v2, v3, v4⟩ := v
 unfold nm at h'
 refine date_at ⟨v1, v2, by omega, by omega⟩ ?_
 rw [show u - n + D n = D n + (u - n) by omega, day_add, e]; omega
structure F where
 mo : Int → Bool
 dom : Int → Bool
 dow : Int → Bool
 ho : Int → Bool
 mi : Int → Bool
 se : Int → Bool
 star : Bool
def dayFits (f : F) (n : Int) : Bool := if f.star then f.dom (D n) && f.dow (W n) else f.dom (D n) || f.dow (W n)
def fits (f : F) (s : Int) : Bool :=
 f.mo (M (s / 86400)) && dayFits f (s / 86400) && f.ho (s % 86400 / 3600) && f.mi (s % 3600 / 60) && f.se (s % 60)
def Quiet (f : F) (a b : Int) : Prop := ∀ u, a ≤ u → u < b → fits f u = false
theorem Quiet.trans {f : F} {a b c : Int} (h : Quiet f a b) (h' : Quiet f b c) : Quiet f a c := by
 intro u h1 h2
 by_cases hb : u < b
 ·exact h u h1 hb
 ·exact h' u (by omega) h2
theorem Quiet.nil (f : F) {a b : Int} (h : b ≤ a) : Quiet f a b := fun u h1 h2 => by omega
theorem quiet_month {f : F} {t : Int} (h : f.mo (M (t / 86400)) = false) : Quiet f t (86400 * nm (t / 86400)) := by
 intro u h1 h2
 have v := date_valid (t / 86400)
 have := (in_month (n := t / 86400) (u := u / 86400) (by have := v.2.2.1; omega) (by omega)).2.1
 unfold fits; rw [this, h]; rfl
theorem quiet_day {f : F} {t : Int} (h : dayFits f (t / 86400) = false) : Quiet f t (86400 * (t / 86400 + 1)) := by
 intro u h1 h2
 have : u / 86400 = t / 86400 := by omega
 unfold fits; rw [this, h]; simp
theorem quiet_hour {f : F} {t : Int} (h : f.ho (t % 86400 / 3600) = false) : Quiet f t (3600 * (t / 3600 + 1)) := by
 intro u h1 h2
 have : u % 86400 / 3600 = t % 86400 / 3600 := by omega
 unfold fits; rw [this, h]; simp
theorem quiet_minute {f : F} {t : Int} (h : f.mi (t % 3600 / 60) = false) : Quiet f t (60 * (t / 60 + 1)) := by
 intro u h1 h2
 have : u % 3600 / 60 = t % 3600 / 60 := by omega
 unfold fits; rw [this, h]; simp
theorem quiet_second {f : F} {t : Int} (h : f.se (t % 60) = false) : Quiet f t (t + 1) := by
 intro u h1 h2
 have : u = t := by omega
 subst this
 unfold fits; rw [h]; simp
def Ans (f : F) (first last : Int) : Option Int → Prop
 | some v => first ≤ v ∧ fits f v = true ∧ Y (v / 86400) ≤ last ∧ Quiet f first v
 | none => ∀ u, first ≤ u → Y (u / 86400) ≤ last → fits f u = false
theorem Ans.unique {f : F} {first last : Int} {r r' : Option Int} (h : Ans f first last r) (h' : Ans f first last r') : r = r' := by
 cases r with
 | none =>
  cases r' with
  | none => rfl
  | some v => have := h v h'.1 h'.2.2.1; rw [h'.2.1] at this; cases this
 | some v =>
  cases r' with
  | none => have := h' v h.1 h.2.2.1; rw [h.2.1] at this; cases this
  | some v' =>
   rcases Int.lt_trichotomy v v' with c | c | c
   ·have := h'.2.2.2 v h.1 c; rw [h.2.1] at this; cases this
   ·rw [c]
   ·have := h.2.2.2 v' h'.1 c; rw [h'.2.1] at this; cases this
theorem Ans.none_of {f : F} {first last t : Int} (h : Quiet f first t) (hy : last < Y (t / 86400)) : Ans f first last none := by
 intro u h1 h2
 by_cases c : u < t
 ·exact h u h1 c
 ·have := Y_mono (show t / 86400 ≤ u / 86400 by omega); omega
def Al (f : F) (t : Int) : Prop :=
 (D (t / 86400) = 1 ∧ t % 86400 = 0) ∨
 (f.mo (M (t / 86400)) = true ∧ (t % 86400 = 0 ∨ (dayFits f (t / 86400) = true ∧ (t % 3600 = 0 ∨ (f.ho (t % 86400 / 3600) = true ∧ (t % 60 = 0 ∨ f.mi (t % 3600 / 60) = true))))))
theorem Al.month {f : F} {t : Int} (h : Al f t) (hm : f.mo (M (t / 86400)) = false) : D (t / 86400) = 1 ∧ t % 86400 = 0 := by
 rcases h with h | h
 ·exact h
 ·rw [hm] at h; exact absurd h.1 (by simp)
theorem Al.day {f : F} {t : Int} (h : Al f t) (hd : dayFits f (t / 86400) = false) : t % 86400 = 0 := by
 rcases h with h | ⟨_, h | h⟩
 ·exact h.2
 ·exact h
 ·rw [hd] at h; exact absurd h.1 (by simp)
theorem Al.hour {f : F} {t : Int} (h : Al f t) (hh : f.ho (t % 86400 / 3600) = false) : t % 3600 = 0 := by
 rcases h with h | ⟨_, h | ⟨_, h | h⟩⟩
 ·have := h.2; omega
 ·omega
 ·exact h
 ·rw [hh] at h; exact absurd h.1 (by simp)
theorem Al.minute {f : F} {t : Int} (h : Al f t) (hh : f.mi (t % 3600 / 60) = false) : t % 60 = 0 := by
 rcases h with h | ⟨_, h | ⟨_, h | ⟨_, h | h⟩⟩⟩
 ·have := h.2; omega
 ·omega
 ·omega
 ·exact h
 ·rw [hh] at h; exact absurd h (by simp)
theorem Al.next_day {f : F} {t : Int} (hm : f.mo (M (t / 86400 - 1)) = true) (h : t % 86400 = 0) : Al f t := by
 have b := tomorrow (t / 86400 - 1)
 rw [show t / 86400 - 1 + 1 = t / 86400 by omega] at b
 by_cases c : D (t / 86400) = 1
 ·exact .inl ⟨c, h⟩
 ·refine .inr ⟨?_, .inl h⟩
  by_cases c1 : D (t / 86400 - 1) < mdays (Y (t / 86400 - 1)) (M (t / 86400 - 1))
  ·rw [(b.1 c1).2.1]; exact hm
  ·by_cases c2 : M (t / 86400 - 1) < 12
   ·exact absurd (b.2.1 c1 c2).2.2 c
   ·exact absurd (b.2.2 c1 c2).2.2 c
theorem Al.next_hour {f : F} {t : Int} (hm : f.mo (M ((t - 3600) / 86400)) = true) (hd : dayFits f ((t - 3600) / 86400) = true) (h : t % 3600 = 0) : Al f t := by
 by_cases c : t % 86400 = 0
 ·exact Al.next_day (by rw [show t / 86400 - 1 = (t - 3600) / 86400 by omega]; exact hm) c
 ·rw [show (t - 3600) / 86400 = t / 86400 by omega] at hm hd
  exact .inr ⟨hm, .inr ⟨hd, .inl h⟩⟩
theorem Al.next_minute {f : F} {t : Int} (hm : f.mo (M ((t - 60) / 86400)) = true) (hd : dayFits f ((t - 60) / 86400) = true)
  (hh : f.ho ((t - 60) % 86400 / 3600) = true) (h : t % 60 = 0) : Al f t := by
 by_cases c : t % 3600 = 0
 ·exact Al.next_hour (by rw [show (t - 3600) / 86400 = (t - 60) / 86400 by omega]; exact hm) (by rw [show (t - 3600) / 86400 = (t - 60) / 86400 by omega]; exact hd) c
 ·rw [show (t - 60) / 86400 = t / 86400 by omega] at hm hd
  rw [show (t - 60) % 86400 / 3600 = t % 86400 / 3600 by omega] at hh
  exact .inr ⟨hm, .inr ⟨hd, .inr ⟨hh, .inl h⟩⟩⟩
theorem Al.next_second {f : F} {t : Int} (hm : f.mo (M ((t - 1) / 86400)) = true) (hd : dayFits f ((t - 1) / 86400) = true)
  (hh : f.ho ((t - 1) % 86400 / 3600) = true) (hi : f.mi ((t - 1) % 3600 / 60) = true) : Al f t := by
 by_cases c : t % 60 = 0
 ·exact Al.next_minute (by rw [show (t - 60) / 86400 = (t - 1) / 86400 by omega]; exact hm) (by rw [show (t - 60) / 86400 = (t - 1) / 86400 by omega]; exact hd) (by rw [show (t - 60) % 86400 / 3600 = (t - 1) % 86400 / 3600 by omega]; exact hh) c
 ·rw [show (t - 1) / 86400 = t / 86400 by omega] at hm hd
  rw [show (t - 1) % 86400 / 3600 = t % 86400 / 3600 by omega] at hh
  rw [show (t - 1) % 3600 / 60 = t % 3600 / 60 by omega] at hi
  exact .inr ⟨hm, .inr ⟨hd, .inr ⟨hh, .inr hi⟩⟩⟩
end Go.Proofs.YtcjdideliifkhaaGreatDoor.Cal
