import Derived.Deep.RegionHeld3
import Derived.Test.YtcjdideliifkhaaGreatDoorB07
set_option maxRecDepth 100000
set_option maxHeartbeats 16000000
namespace Go.Proofs.YtcjdideliifkhaaGreatDoor
open Go.RowKit
set_option linter.unusedVariables false
set_option linter.unusedSimpArgs false
abbrev tm (ns e : Int) (l : Value) : Value := .agg #[.int .u64 ns, .int .i64 e, l]
theorem nsec_c (b o : Nat) (n : Int) (h0 : 0 ≤ n) (h1 : n < 1000000000) (w : World) (h : w.cell? ⟨b, o, none⟩ = some (.int .u64 n)) :
  Calls Tryz.prog 126 #[.pointer (some ⟨b, o, none⟩)] w fun e w' => e = .returned (.int .i32 n) ∧ w = w' := by
 have h2 := and_nsec h0 h1
 go_enter Tryz.func126, Tryz.ntmps126
 go_wp2
 go_ret
 exact ⟨rfl, rfl⟩
theorem sec_c (b o : Nat) (n s : Int) (h0 : 0 ≤ n) (h1 : n < 1000000000) (w : World) (h : w.cell? ⟨b, o, none⟩ = some (.int .u64 n)) (hs : w.cell? ⟨b, o + 1, none⟩ = some (.int .i64 s)) :
  Calls Tryz.prog 147 #[.pointer (some ⟨b, o, none⟩)] w fun e w' => e = .returned (.int .i64 s) ∧ w = w' := by
 have h2 := and_mono h0 h1
 go_enter Tryz.func147, Tryz.ntmps147
 go_wp2
 go_ret
 exact ⟨rfl, rfl⟩
theorem unixSec_c (b o : Nat) (n s : Int) (h0 : 0 ≤ n) (h1 : n < 1000000000) (hs0 : -4611686018427387904 ≤ s) (hs1 : s ≤ 4611686018427387904) (w : World) (h : w.cell? ⟨b, o, none⟩ = some (.int .u64 n)) (hs : w.cell? ⟨b, o + 1, none⟩ = some (.int .i64 s)) :
  Calls Tryz.prog 125 #[.pointer (some ⟨b, o, none⟩)] w fun e w' => e = .returned (.int .i64 (s - 62135596800)) ∧ w = w' := by
 go_enter Tryz.func125, Tryz.ntmps125
 go_wp2_with fail
 refine (sec_c _ _ n s h0 h1 _ h hs).mono ?_
 rintro e w' ⟨rfl, rfl⟩
 go_wp2
 go_ret
 exact ⟨rfl, rfl⟩
theorem stripMono_c (b o : Nat) (n : Int) (h0 : 0 ≤ n) (h1 : n < 1000000000) (w : World) (h : w.cell? ⟨b, o, none⟩ = some (.int .u64 n)) :
  Calls Tryz.prog 127 #[.pointer (some ⟨b, o, none⟩)] w fun e w' => e = .returned (.tuple #[]) ∧ w = w' := by
 have h2 := and_mono h0 h1
 go_enter Tryz.func127, Tryz.ntmps127
 go_wp2
 exact bodyPost_end (v := .tuple #[]) (by simp [results, Tryz.f127, go_sem]) rfl ⟨rfl, rfl⟩
structure IsUTC (w : World) (b : Nat) : Prop where
 size : b < w.heap.size
 utc : w.cell? ⟨b, 0, none⟩ = some (.bool true)
 zone : w.cell? ⟨b, 2, none⟩ = some (.slice none 0 0)
theorem IsUTC.below {w w' : World} {b : Nat} (h : IsUTC w b) (hb : Below w.heap.size w w') : IsUTC w' b :=
 ⟨Nat.lt_of_lt_of_le h.1 hb.size, by rw [hb.cell (p := ⟨b, 0, none⟩) h.1]; exact h.2, by rw [hb.cell (p := ⟨b, 2, none⟩) h.1]; exact h.3⟩
theorem utc_c (w : World) : Calls Tryz.prog 39 #[] w fun e w' => e = .returned (.pointer (some ⟨w.heap.size, 0, none⟩)) ∧ IsUTC w' w.heap.size ∧ Below w.heap.size w w' := by
 go_enter Tryz.func39, Tryz.ntmps39
 go_wp2
 go_ret
 exact ⟨rfl, ⟨by simp, by simp [go_sem], by simp [go_sem]⟩, (Below.refl _ _).alloc (Nat.le_refl _) _⟩
theorem get_c (w : World) : Calls Tryz.prog 229 #[.pointer none] w fun e w' => e = .returned (.pointer (some ⟨w.heap.size, 0, none⟩)) ∧ IsUTC w' w.heap.size ∧ Below w.heap.size w w' := by
 go_enter Tryz.func229, Tryz.ntmps229
 go_wp2_with fail
 refine (utc_c _).mono ?_
 rintro e w' ⟨rfl, hu, hb⟩
 go_wp2
 go_ret
 exact ⟨rfl, hu, hb⟩
theorem get_some (a : Addr) (w : World) : Calls Tryz.prog 229 #[.pointer (some a)] w fun e w' => e = .returned (.pointer (some a)) ∧ w = w' := by
 go_enter Tryz.func229, Tryz.ntmps229
 go_wp2
 go_ret
 exact ⟨rfl, rfl⟩
theorem location_c (ns e : Int) (w : World) : Calls Tryz.prog 203 #[tm ns e (.pointer none)] w fun r w' => ∃ u, r = .returned (.pointer (some ⟨u, 0, none⟩)) ∧ w.heap.size ≤ u ∧ IsUTC w' u ∧ Below w.heap.size w w' := by
 go_enter Tryz.func203, Tryz.ntmps203
 go_wp2_with fail
 refine (utc_c _).mono ?_
 rintro e w' ⟨rfl, hu, hb⟩
 go_wp2
 go_ret
 exact ⟨_, rfl, by simp, by simpa using hu, ((Below.refl _ _).alloc (Nat.le_refl _) _).trans (hb.mono (by simp))⟩
theorem setLoc_utc (b o : Nat) (n : Int) (h0 : 0 ≤ n) (h1 : n < 1000000000) (u : Nat) (w : World) (h : w.cell? ⟨b, o, none⟩ = some (.int .u64 n)) (v : Value) (h3 : w.cell? ⟨b, o + 2, none⟩ = some v)
  (hf : w.frozen? ⟨b, o + 2, none⟩ = false) (hu : IsUTC w u) :
  Calls Tryz.prog 100 #[.pointer (some ⟨b, o, none⟩), .pointer (some ⟨u, 0, none⟩)] w fun e w' => e = .returned (.tuple #[]) ∧ w.setCell ⟨b, o + 2, none⟩ (.pointer none) = w' := by
 have k1 := hu.utc
 go_enter Tryz.func100, Tryz.ntmps100
 go_wp2_with fail
 refine (stripMono_c _ _ n h0 h1 _ h).mono ?_
 rintro e w' ⟨rfl, rfl⟩
 go_wp2
 exact bodyPost_end (v := .tuple #[]) (by simp [results, Tryz.f100, go_sem]) rfl ⟨rfl, rfl⟩
theorem setLoc_zone (b o : Nat) (n : Int) (h0 : 0 ≤ n) (h1 : n < 1000000000) (u : Nat) (w : World) (h : w.cell? ⟨b, o, none⟩ = some (.int .u64 n)) (v : Value) (h3 : w.cell? ⟨b, o + 2, none⟩ = some v)
  (hf : w.frozen? ⟨b, o + 2, none⟩ = false) (k1 : w.cell? ⟨u, 0, none⟩ = some (.bool false)) :
  Calls Tryz.prog 100 #[.pointer (some ⟨b, o, none⟩), .pointer (some ⟨u, 0, none⟩)] w fun e w' => e = .returned (.tuple #[]) ∧ w.setCell ⟨b, o + 2, none⟩ (.pointer (some ⟨u, 0, none⟩)) = w' := by
 go_enter Tryz.func100, Tryz.ntmps100
 go_wp2_with fail
 refine (stripMono_c _ _ n h0 h1 _ h).mono ?_
 rintro e w' ⟨rfl, rfl⟩
 go_wp2
 exact bodyPost_end (v := .tuple #[]) (by simp [results, Tryz.f100, go_sem]) rfl ⟨rfl, rfl⟩
theorem in_utc (ns e : Int) (l : Value) (hl : ∃ p, l = .pointer p) (h0 : 0 ≤ ns) (h1 : ns < 1000000000) (u : Nat) (w : World) (hu : IsUTC w u) :
  Calls Tryz.prog 68 #[tm ns e l, .pointer (some ⟨u, 0, none⟩)] w fun r w' => r = .returned (tm ns e (.pointer none)) ∧ Below w.heap.size w w' := by
 obtain ⟨p, rfl⟩ := hl
 have k0 := hu.size
 go_enter Tryz.func68, Tryz.ntmps68
 go_wp2_with fail
 refine (setLoc_utc _ _ ns h0 h1 u _ (by simp [go_sem]) (.pointer p) (by simp [go_sem]) (by simp [go_sem]) (hu.below (((Below.refl _ _).alloc (Nat.le_refl _) _).alloc (by simp) _))).mono ?_
 rintro e w' ⟨rfl, rfl⟩
 go_wp2
 exact bodyPost_ret (v := tm ns e (.pointer none)) (by simp [results, Tryz.f68, go_sem]) rfl ⟨rfl, ((Below.refl _ _).alloc (Nat.le_refl _) _).alloc (by simp) _⟩
theorem in_zone (ns e : Int) (l : Value) (hl : ∃ p, l = .pointer p) (h0 : 0 ≤ ns) (h1 : ns < 1000000000) (u : Nat) (w : World) (k0 : u < w.heap.size) (k1 : w.cell? ⟨u, 0, none⟩ = some (.bool false)) :
  Calls Tryz.prog 68 #[tm ns e l, .pointer (some ⟨u, 0, none⟩)] w fun r w' => r = .returned (tm ns e (.pointer (some ⟨u, 0, none⟩))) ∧ Below w.heap.size w w' := by
 obtain ⟨p, rfl⟩ := hl
 go_enter Tryz.func68, Tryz.ntmps68
 go_wp2_with fail
 refine (setLoc_zone _ _ ns h0 h1 u _ (by simp [go_sem]) (.pointer p) (by simp [go_sem]) (by simp [go_sem]) (by rw [(((Below.refl w.heap.size w).alloc (Nat.le_refl _) _).alloc (by simp) _).cell (p := ⟨u, 0, none⟩) k0]; exact k1)).mono ?_
 rintro e w' ⟨rfl, rfl⟩
 go_wp2
 exact bodyPost_ret (v := tm ns e (.pointer (some ⟨u, 0, none⟩))) (by simp [results, Tryz.f68, go_sem]) rfl ⟨rfl, ((Below.refl _ _).alloc (Nat.le_refl _) _).alloc (by simp) _⟩
theorem isZero_c (ns e : Int) (l : Value) (hl : ∃ p, l = .pointer p) (w : World) :
  Calls Tryz.prog 65 #[tm ns e l] w fun r w' => r = .returned (.bool (decide (ns = 0 ∧ e = 0))) ∧ Below w.heap.size w w' := by
 obtain ⟨p, rfl⟩ := hl
 by_cases c : ns = 0 <;> by_cases d : e = 0
 all_goals
  try subst c
  try subst d
  go_enter Tryz.func65, Tryz.ntmps65
  go_wp2
  go_ret
  exact ⟨by simp [*], (Below.refl _ _).alloc (Nat.le_refl _) _⟩
theorem unix_c (ns e : Int) (l : Value) (hl : ∃ p, l = .pointer p) (h0 : 0 ≤ ns) (h1 : ns < 1000000000) (hs0 : -4611686018427387904 ≤ e) (hs1 : e ≤ 4611686018427387904) (w : World) :
  Calls Tryz.prog 97 #[tm ns e l] w fun r w' => r = .returned (.int .i64 (e - 62135596800)) ∧ Below w.heap.size w w' := by
 obtain ⟨p, rfl⟩ := hl
 go_enter Tryz.func97, Tryz.ntmps97
 go_wp2_with fail
 refine (unixSec_c _ _ ns e h0 h1 hs0 hs1 _ (by simp [go_sem]) (by simp [go_sem])).mono ?_
 rintro e w' ⟨rfl, rfl⟩
 go_wp2
 go_ret
 exact ⟨rfl, (Below.refl _ _).alloc (Nat.le_refl _) _⟩
theorem nanosecond_c (ns e : Int) (l : Value) (hl : ∃ p, l = .pointer p) (h0 : 0 ≤ ns) (h1 : ns < 1000000000) (w : World) :
  Calls Tryz.prog 98 #[tm ns e l] w fun r w' => r = .returned (.int .i64 ns) ∧ Below w.heap.size w w' := by
 obtain ⟨p, rfl⟩ := hl
 go_enter Tryz.func98, Tryz.ntmps98
 go_wp2_with fail
 refine (nsec_c _ _ ns h0 h1 _ (by simp [go_sem])).mono ?_
 rintro e w' ⟨rfl, rfl⟩
 go_wp2
 go_ret
 exact ⟨rfl, (Below.refl _ _).alloc (Nat.le_refl _) _⟩
theorem plainMoment_c (ns e : Int) (l : Value) (hl : ∃ p, l = .pointer p) (h0 : 0 ≤ ns) (h1 : ns < 1000000000) (hs0 : -4611686018427387904 ≤ e) (hs1 : e ≤ 4611686018427387904) (w : World) :
  Calls Tryz.prog 66 #[tm ns e l] w fun r w' => r = .returned (.agg #[.int .i64 (e - 62135596800), .int .i64 ns]) ∧ Below w.heap.size w w' := by
 have hl' := hl
 obtain ⟨p, rfl⟩ := hl
 go_enter Tryz.func66, Tryz.ntmps66
 go_wp2
 go_region_with (first
   | (go_at_call 97; refine (unix_c ns e _ hl' h0 h1 hs0 hs1 _).mono ?_; rintro e w1 ⟨rfl, hb⟩; obtain ⟨hc, hf⟩ := bcell hb; have hz : w.heap.size + 1 < w1.heap.size := (by have := hb.size; simp at this; omega))
   | (go_at_call 98; refine (nanosecond_c ns _ _ hl' h0 h1 _).mono ?_; rintro e w2 ⟨rfl, hb2⟩; obtain ⟨hc2, hf2⟩ := bcell hb2; have hz2 : w.heap.size + 1 < w2.heap.size := (by have := hb2.size; omega)))
 all_goals
  go_wp2
  exact bodyPost_ret (v := .agg #[.int .i64 (e - 62135596800), .int .i64 ns]) (by simp [results, Tryz.f66, go_sem, hc, hc2, hz, hz2]) rfl
   ⟨rfl, (((((Below.refl _ _).alloc (Nat.le_refl _) _).alloc (by simp) _).drew.trans (hb.mono (by simp; omega))).trans (hb2.mono (by omega))).setCell (by simp) _ |>.setCell (by simp) _⟩
theorem isZero_no (ns e : Int) (l : Value) (hl : ∃ p, l = .pointer p) (h : ¬ (ns = 0 ∧ e = 0)) (w : World) :
  Calls Tryz.prog 65 #[tm ns e l] w fun r w' => r = .returned (.bool false) ∧ Below w.heap.size w w' := by
 have := isZero_c ns e l hl w; rw [decide_eq_false h] at this; exact this
theorem isZero_yes (l : Value) (hl : ∃ p, l = .pointer p) (w : World) :
  Calls Tryz.prog 65 #[tm 0 0 l] w fun r w' => r = .returned (.bool true) ∧ Below w.heap.size w w' := by
 have := isZero_c 0 0 l hl w; rw [decide_eq_true ⟨rfl, rfl⟩] at this; exact this
abbrev inst (s ns : Int) : Value := .agg #[.int .i64 s, .int .i64 ns]
theorem wrap_i64 {n : Int} (h0 : -9223372036854775808 ≤ n) (h1 : n ≤ 9223372036854775807) : wrap64 n = n := by unfold wrap64; omega
theorem unixTime_c (s ns : Int) (h0 : 0 ≤ ns) (h1 : ns < 1000000000) (hs0 : -4611686018427387904 ≤ s) (hs1 : s ≤ 4611686018427387904) (w : World) :
  Calls Tryz.prog 99 #[.int .i64 s, .int .i32 ns] w fun r w' => r = .returned (tm ns (s + 62135596800) (.pointer none)) ∧ Below w.heap.size w w' := by
 go_enter Tryz.func99, Tryz.ntmps99
 go_wp2
 exact bodyPost_ret (v := tm ns (s + 62135596800) (.pointer none)) (by simp [results, Tryz.f99, go_sem]) rfl ⟨rfl, (Below.refl _ _).alloc (Nat.le_refl _) _⟩
theorem unixMake_c (s ns : Int) (h0 : 0 ≤ ns) (h1 : ns < 1000000000) (hs0 : -4611686018427387904 ≤ s) (hs1 : s ≤ 4611686018427387904) (w : World) :
  Calls Tryz.prog 67 #[.int .i64 s, .int .i64 ns] w fun r w' => r = .returned (tm ns (s + 62135596800) (.pointer none)) ∧ Below w.heap.size w w' := by
 go_enter Tryz.func67, Tryz.ntmps67
 go_wp2_with fail
 refine (unixTime_c s ns h0 h1 hs0 hs1 _).mono ?_
 rintro e w1 ⟨rfl, hb⟩
 obtain ⟨hc, hf⟩ := bcell hb
 have hz : w.heap.size < w1.heap.size := by have := hb.size; simp at this; omega
 go_wp2
 exact bodyPost_ret (v := tm ns (s + 62135596800) (.pointer none)) (by simp [results, Tryz.f67, go_sem, hc, hz]) rfl
  ⟨rfl, ((((Below.refl _ _).alloc (Nat.le_refl _) _).trans (hb.mono (by simp))).setCell (by simp) _ |>.setCell (by simp) _).setCell (by simp) _⟩
theorem moment_utc (s ns : Int) (h0 : 0 ≤ ns) (h1 : ns < 1000000000) (hs0 : -4611686018427387904 ≤ s) (hs1 : s ≤ 4611686018427387904) (u : Nat) (w : World) (hu : IsUTC w u) :
  Calls Tryz.prog 32 #[inst s ns, .pointer (some ⟨u, 0, none⟩)] w fun r w' => r = .returned (tm ns (s + 62135596800) (.pointer none)) ∧ Below w.heap.size w w' := by
 have hus := hu.size
 go_enter Tryz.func32, Tryz.ntmps32
 go_wp2_with fail
 refine (unixMake_c s ns h0 h1 hs0 hs1 _).mono ?_
 rintro e w1 ⟨rfl, hb⟩
 obtain ⟨hc, hf⟩ := bcell hb
 have hz : w.heap.size + 1 < w1.heap.size := by have := hb.size; simp at this; omega
 have hB : Below w.heap.size w w1 := (((Below.refl _ _).alloc (Nat.le_refl _) _).alloc (by simp) _).trans (hb.mono (by simp; omega))
 go_wp2_with fail
 refine (in_utc ns _ _ ⟨_, rfl⟩ h0 h1 u _ (hu.below hB)).mono ?_
 rintro e w2 ⟨rfl, hb2⟩
 obtain ⟨hc2, hf2⟩ := bcell hb2
 have hz2 : w.heap.size + 1 < w2.heap.size := by have := hb2.size; omega
 go_wp2
 exact bodyPost_ret (v := tm ns (s + 62135596800) (.pointer none)) (by simp [results, Tryz.f32, go_sem, hc, hc2, hz, hz2]) rfl
  ⟨rfl, ((hB.trans (hb2.mono (by omega))).setCell (by simp) _ |>.setCell (by simp) _).setCell (by simp) _⟩
theorem answer_some (ns e : Int) (l : Value) (hl : ∃ p, l = .pointer p) (h0 : 0 ≤ ns) (h1 : ns < 1000000000) (hs0 : 0 < e) (hs1 : e ≤ 4611686018427387904) (w : World) :
  Calls Tryz.prog 31 #[tm ns e l] w fun r w' => r = .returned (.tuple #[inst (e - 62135596800) ns, .bool true]) ∧ Below w.heap.size w w' := by
 have hl' := hl
 obtain ⟨p, rfl⟩ := hl
 go_enter Tryz.func31, Tryz.ntmps31
 go_wp2_with fail
 refine (isZero_no ns e _ hl' (by omega) _).mono ?_
 rintro r w1 ⟨rfl, hb⟩
 obtain ⟨hc, hf⟩ := bcell hb
 have hz : w.heap.size + 1 < w1.heap.size := by have := hb.size; simp at this; omega
 have hB : Below w.heap.size w w1 := (((Below.refl _ _).alloc (Nat.le_refl _) _).alloc (by simp) _).trans (hb.mono (by simp; omega))
 go_wp2_with fail
 refine (plainMoment_c ns e _ hl' h0 h1 (by omega) hs1 _).mono ?_
 rintro r w2 ⟨rfl, hb2⟩
 obtain ⟨hc2, hf2⟩ := bcell hb2
 have hz2 : w.heap.size + 1 < w2.heap.size := by have := hb2.size; omega
 go_wp2
 exact bodyPost_ret (v := .tuple #[inst (e - 62135596800) ns, .bool true]) (by simp [results, Tryz.f31, go_sem, hc, hc2, hz, hz2]) rfl
  ⟨rfl, (hB.trans (hb2.mono (by omega))).setCell (by simp) _ |>.setCell (by simp) _⟩
theorem answer_none (l : Value) (hl : ∃ p, l = .pointer p) (w : World) :
  Calls Tryz.prog 31 #[tm 0 0 l] w fun r w' => r = .returned (.tuple #[inst 0 0, .bool false]) ∧ Below w.heap.size w w' := by
 have hl' := hl
 obtain ⟨p, rfl⟩ := hl
 go_enter Tryz.func31, Tryz.ntmps31
 go_wp2_with fail
 refine (isZero_yes _ hl' _).mono ?_
 rintro r w1 ⟨rfl, hb⟩
 obtain ⟨hc, hf⟩ := bcell hb
 have hz : w.heap.size + 1 < w1.heap.size := by have := hb.size; simp at this; omega
 have hB : Below w.heap.size w w1 := (((Below.refl _ _).alloc (Nat.le_refl _) _).alloc (by simp) _).trans (hb.mono (by simp; omega))
 go_wp2
 exact bodyPost_ret (v := .tuple #[inst 0 0, .bool false]) (by simp [results, Tryz.f31, go_sem, hc, hz]) rfl
  ⟨rfl, hB.setCell (by simp) _ |>.setCell (by simp) _⟩
theorem addSec_c (b o : Nat) (n s d : Int) (h0 : 0 ≤ n) (h1 : n < 1000000000) (hs0 : -2305843009213693952 ≤ s) (hs1 : s ≤ 2305843009213693952) (hd0 : -2305843009213693952 ≤ d) (hd1 : d ≤ 2305843009213693952) (w : World)
  (h : w.cell? ⟨b, o, none⟩ = some (.int .u64 n)) (hs : w.cell? ⟨b, o + 1, none⟩ = some (.int .i64 s)) (hf : w.frozen? ⟨b, o + 1, none⟩ = false) :
  Calls Tryz.prog 218 #[.pointer (some ⟨b, o, none⟩), .int .i64 d] w fun e w' => e = .returned (.tuple #[]) ∧ w.setCell ⟨b, o + 1, none⟩ (.int .i64 (s + d)) = w' := by
 have h2 := and_mono h0 h1
 by_cases c : 0 < d
 ·have c2 : s < s + d := by omega
  go_enter Tryz.func218, Tryz.ntmps218
  go_wp2
  exact bodyPost_end (v := .tuple #[]) (by simp [results, Tryz.f218, go_sem]) rfl ⟨rfl, rfl⟩
 ·have c2 : ¬ s < s + d := by omega
  go_enter Tryz.func218, Tryz.ntmps218
  go_wp2
  exact bodyPost_end (v := .tuple #[]) (by simp [results, Tryz.f218, go_sem]) rfl ⟨rfl, rfl⟩
theorem add_c (ns e k d : Int) (l : Value) (hl : ∃ p, l = .pointer p) (h0 : 0 ≤ ns) (h1 : ns < 1000000000) (hk : d = k * 1000000000 - ns) (hd0 : 0 ≤ d) (hd1 : d ≤ 9223372036854775807) (hs0 : -1152921504606846976 ≤ e) (hs1 : e ≤ 1152921504606846976) (w : World) :
  Calls Tryz.prog 204 #[tm ns e l, .int .i64 d] w fun r w' => r = .returned (tm 0 (e + k) l) ∧ Below w.heap.size w w' := by
 obtain ⟨p, rfl⟩ := hl
 have hkb : 0 ≤ k ∧ k ≤ 1152921504606846976 := by omega
 obtain ⟨hk0, hk1⟩ := hkb
 by_cases c : ns = 0
 ·subst c
  have hq : d / 1000000000 = k := by omega
  have hr : d % 1000000000 = 0 := by omega
  clear hk
  have b1 : bits .andNot .u64 0 1073741823 = 0 := by decide +kernel
  have b2 : bits .or .u64 0 0 = 0 := by decide +kernel
  have b3 : bits .and .u64 0 9223372036854775808 = 0 := by decide +kernel
  go_enter Tryz.func204, Tryz.ntmps204
  go_wp2_with (first
   | (go_at_call 126; refine (nsec_c _ _ 0 (by decide) (by decide) _ (by simp [go_sem])).mono ?_; rintro r w' ⟨rfl, rfl⟩)
   | (go_at_call 218; refine (addSec_c _ _ 0 e k (by decide) (by decide) (by omega) (by omega) (by omega) (by omega) _ (by simp [go_sem, b2]) (by simp [go_sem]) (by simp [go_sem])).mono ?_; rintro r w' ⟨rfl, rfl⟩))
  exact bodyPost_ret (v := tm 0 (e + k) (.pointer p)) (by simp [results, Tryz.f204, go_sem]) rfl
   ⟨rfl, by repeat (first | exact Below.refl _ _ | refine Below.setCell ?_ (by simp) _ | refine Below.alloc ?_ (by simp) _)⟩
 ·have hq : d / 1000000000 = k - 1 := by omega
  have hr : d % 1000000000 = 1000000000 - ns := by omega
  have hr2 : ns + (1000000000 - ns) = 1000000000 := by omega
  have hk2 : k - 1 + 1 = k := by omega
  have hk3 : 0 < k := by omega
  clear hk
  have b1 := not_nsec h0 h1
  have b2 : bits .or .u64 0 0 = 0 := by decide +kernel
  have b3 : bits .and .u64 0 9223372036854775808 = 0 := by decide +kernel
  go_enter Tryz.func204, Tryz.ntmps204
  go_wp2_with (first
   | (go_at_call 126; refine (nsec_c _ _ ns h0 h1 _ (by simp [go_sem])).mono ?_; rintro r w' ⟨rfl, rfl⟩)
   | (go_at_call 218; refine (addSec_c _ _ 0 e k (by decide) (by decide) (by omega) (by omega) (by omega) (by omega) _ (by simp [go_sem, b2]) (by simp [go_sem]) (by simp [go_sem])).mono ?_; rintro r w' ⟨rfl, rfl⟩))
  exact bodyPost_ret (v := tm 0 (e + k) (.pointer p)) (by simp [results, Tryz.f204, go_sem]) rfl
   ⟨rfl, by repeat (first | exact Below.refl _ _ | refine Below.setCell ?_ (by simp) _ | refine Below.alloc ?_ (by simp) _)⟩
theorem add_back (e k d : Int) (l : Value) (hl : ∃ p, l = .pointer p) (hk : d = - (k * 1000000000)) (hk0 : 0 ≤ k) (hk1 : k ≤ 3600) (hs0 : -1152921504606846976 ≤ e) (hs1 : e ≤ 1152921504606846976) (w : World) :
  Calls Tryz.prog 204 #[tm 0 e l, .int .i64 d] w fun r w' => r = .returned (tm 0 (e + -k) l) ∧ Below w.heap.size w w' := by
 by_cases c : k = 0
 ·subst c
  have : d = 0 := by omega
  subst this
  have := add_c 0 e 0 0 l hl (by decide) (by decide) (by decide) (by decide) (by decide) hs0 hs1 w
  simpa using this
 obtain ⟨p, rfl⟩ := hl
 have hd0 : d < 0 := by omega
 have hd1 : -4000000000000 ≤ d := by omega
 have hq : d.tdiv 1000000000 = -k := by rw [hk, Int.neg_tdiv, Int.mul_tdiv_cancel _ (by decide)]
 have hr : d.tmod 1000000000 = 0 := by rw [hk, Int.neg_tmod, Int.mul_tmod_left]; rfl
 clear hk
 have b1 : bits .andNot .u64 0 1073741823 = 0 := by decide +kernel
 have b2 : bits .or .u64 0 0 = 0 := by decide +kernel
 have b3 : bits .and .u64 0 9223372036854775808 = 0 := by decide +kernel
 go_enter Tryz.func204, Tryz.ntmps204
 go_wp2_with (first
   | (go_at_call 126; refine (nsec_c _ _ 0 (by decide) (by decide) _ (by simp [go_sem])).mono ?_; rintro r w' ⟨rfl, rfl⟩)
   | (go_at_call 218; refine (addSec_c _ _ 0 e (-k) (by decide) (by decide) (by omega) (by omega) (by omega) (by omega) _ (by simp [go_sem, b2]) (by simp [go_sem]) (by simp [go_sem])).mono ?_; rintro r w' ⟨rfl, rfl⟩))
 exact bodyPost_ret (v := tm 0 (e + -k) (.pointer p)) (by simp [results, Tryz.f204, go_sem]) rfl
   ⟨rfl, by repeat (first | exact Below.refl _ _ | refine Below.setCell ?_ (by simp) _ | refine Below.alloc ?_ (by simp) _)⟩
theorem div_minute (e : Int) (l : Value) (hl : ∃ p, l = .pointer p) (hs0 : 0 ≤ e) (hs1 : e ≤ 1152921504606846976) (w : World) :
  Calls Tryz.prog 228 #[tm 0 e l, .int .i64 60000000000] w fun r w' => (∃ q : Int, r = .returned (.tuple #[.int .i64 q, .int .i64 (e % 60 * 1000000000)])) ∧ Below w.heap.size w w' := by
 obtain ⟨p, rfl⟩ := hl
 go_enter Tryz.func228, Tryz.ntmps228
 go_wp2_with (first
   | (go_at_call 126; refine (nsec_c _ _ 0 (by decide) (by decide) _ (by simp [go_sem])).mono ?_; rintro r w' ⟨rfl, rfl⟩)
   | (go_at_call 147; refine (sec_c _ _ 0 e (by decide) (by decide) _ (by simp [go_sem]) (by simp [go_sem])).mono ?_; rintro r w' ⟨rfl, rfl⟩))
 go_ret2
 exact ⟨⟨_, rfl⟩, by repeat (first | exact Below.refl _ _ | refine Below.setCell ?_ (by simp) _ | refine Below.alloc ?_ (by simp) _)⟩
theorem wrap_u64_i64 {x : Int} (h0 : 0 ≤ x) (h1 : x < 18446744073709551616) : IntKind.u64.wrap (wrap64 x) = x := by
 have : IntKind.u64.wrap (wrap64 x) = wrap64 x % 18446744073709551616 := by simp [IntKind.wrap, IntKind.bits, IntKind.signed]
 rw [this]; unfold wrap64; omega
theorem div_second (e : Int) (l : Value) (hl : ∃ p, l = .pointer p) (hs0 : 0 ≤ e) (hs1 : e ≤ 1152921504606846976) (w : World) :
  Calls Tryz.prog 228 #[tm 0 e l, .int .i64 1000000000] w fun r w' => (∃ q : Int, r = .returned (.tuple #[.int .i64 q, .int .i64 0])) ∧ Below w.heap.size w w' := by
 obtain ⟨p, rfl⟩ := hl
 go_enter Tryz.func228, Tryz.ntmps228
 go_wp2_with (first
   | (go_at_call 126; refine (nsec_c _ _ 0 (by decide) (by decide) _ (by simp [go_sem])).mono ?_; rintro r w' ⟨rfl, rfl⟩)
   | (go_at_call 147; refine (sec_c _ _ 0 e (by decide) (by decide) _ (by simp [go_sem]) (by simp [go_sem])).mono ?_; rintro r w' ⟨rfl, rfl⟩))
 go_ret2
 refine ⟨⟨bits .and .i64 e 1, ?_⟩, by repeat (first | exact Below.refl _ _ | refine Below.setCell ?_ (by simp) _ | refine Below.alloc ?_ (by simp) _)⟩
 rfl
theorem truncate_minute (e : Int) (l : Value) (hl : ∃ p, l = .pointer p) (hs0 : 0 ≤ e) (hs1 : e ≤ 1152921504606846976) (w : World) :
  Calls Tryz.prog 212 #[tm 0 e l, .int .i64 60000000000] w fun r w' => r = .returned (tm 0 (e + -(e % 60)) l) ∧ Below w.heap.size w w' := by
 have hl' := hl
 obtain ⟨p, rfl⟩ := hl
 have hm : 0 ≤ e % 60 ∧ e % 60 < 60 := by omega
 generalize hmm : e % 60 = m at hm ⊢
 go_enter Tryz.func212, Tryz.ntmps212
 go_wp2_with (go_at_call 127; refine (stripMono_c _ _ 0 (by decide) (by decide) _ (by simp [go_sem])).mono ?_; rintro r w' ⟨rfl, rfl⟩)
 refine (div_minute e _ hl' hs0 hs1 _).mono ?_
 rintro r w1 ⟨⟨q, rfl⟩, hb⟩
 rw [hmm]
 obtain ⟨hc, hf⟩ := bcell hb
 have hz : w.heap.size + 1 < w1.heap.size := by have := hb.size; simp at this; omega
 have hB : Below w.heap.size w w1 := (((Below.refl _ _).alloc (Nat.le_refl _) _).alloc (by simp) _).trans (hb.mono (by simp; omega))
 go_wp2_with fail
 refine (add_back e m _ _ hl' rfl hm.1 (by omega) (by omega) hs1 _).mono ?_
 rintro r w2 ⟨rfl, hb2⟩
 obtain ⟨hc2, hf2⟩ := bcell hb2
 have hz2 : w.heap.size + 1 < w2.heap.size := by have := hb2.size; omega
 go_wp2
 exact bodyPost_ret (v := tm 0 (e + -m) (.pointer p)) (by simp [results, Tryz.f212, go_sem, hc, hc2, hz, hz2]) rfl
  ⟨rfl, ((hB.trans (hb2.mono (by omega))).setCell (by simp) _ |>.setCell (by simp) _).setCell (by simp) _⟩
theorem truncate_second (e : Int) (l : Value) (hl : ∃ p, l = .pointer p) (hs0 : 0 ≤ e) (hs1 : e ≤ 1152921504606846976) (w : World) :
  Calls Tryz.prog 212 #[tm 0 e l, .int .i64 1000000000] w fun r w' => r = .returned (tm 0 e l) ∧ Below w.heap.size w w' := by
 have hl' := hl
 obtain ⟨p, rfl⟩ := hl
 go_enter Tryz.func212, Tryz.ntmps212
 go_wp2_with (go_at_call 127; refine (stripMono_c _ _ 0 (by decide) (by decide) _ (by simp [go_sem])).mono ?_; rintro r w' ⟨rfl, rfl⟩)
 refine (div_second e _ hl' hs0 hs1 _).mono ?_
 rintro r w1 ⟨⟨q, rfl⟩, hb⟩
 obtain ⟨hc, hf⟩ := bcell hb
 have hz : w.heap.size + 1 < w1.heap.size := by have := hb.size; simp at this; omega
 have hB : Below w.heap.size w w1 := (((Below.refl _ _).alloc (Nat.le_refl _) _).alloc (by simp) _).trans (hb.mono (by simp; omega))
 go_wp2_with fail
 refine (add_c 0 e 0 0 _ hl' (by decide) (by decide) (by decide) (by decide) (by decide) (by omega) hs1 _).mono ?_
 rw [show e + 0 = e by omega]
 rintro r w2 ⟨rfl, hb2⟩
 obtain ⟨hc2, hf2⟩ := bcell hb2
 have hz2 : w.heap.size + 1 < w2.heap.size := by have := hb2.size; omega
 go_wp2
 exact bodyPost_ret (v := tm 0 e (.pointer p)) (by simp [results, Tryz.f212, go_sem, hc, hc2, hz, hz2]) rfl
  ⟨rfl, ((hB.trans (hb2.mono (by omega))).setCell (by simp) _ |>.setCell (by simp) _).setCell (by simp) _⟩
theorem absSec_c (ns e : Int) (h0 : 0 ≤ ns) (h1 : ns < 1000000000) (hs0 : -100000000000000 ≤ e) (hs1 : e ≤ 100000000000000) (w : World) :
  Calls Tryz.prog 214 #[tm ns e (.pointer none)] w fun r w' => r = .returned (.int .u64 (e + 9223371966606163200)) ∧ Below w.heap.size w w' := by
 go_enter Tryz.func214, Tryz.ntmps214
 go_wp2_with fail
 refine (get_c _).mono ?_
 rintro r w1 ⟨rfl, hu, hb⟩
 obtain ⟨hc, hf⟩ := bcell hb
 have hz : w.heap.size < w1.heap.size := by have := hb.size; simp at this; omega
 have hB : Below w.heap.size w w1 := ((Below.refl _ _).alloc (Nat.le_refl _) _).trans (hb.mono (by simp))
 have hu1 := hu.utc
 simp at hu1
 go_wp2_with fail
 refine (unixSec_c _ _ ns e h0 h1 (by omega) (by omega) _ (by simp [go_sem, hc, hz]) (by simp [go_sem, hc, hz])).mono ?_
 rintro r w2 ⟨rfl, rfl⟩
 go_wp2
 go_ret
 refine ⟨?_, hB⟩
 rw [← wrap_u64_i64 (x := e + 9223371966606163200) (by omega) (by omega), show e + 9223371966606163200 = e - 62135596800 + 9223372028741760000 by omega]
 rfl
end Go.Proofs.YtcjdideliifkhaaGreatDoor
namespace Go.Proofs.YtcjdideliifkhaaGreatDoor.Cal
def ys (y : Int) : Int := 365 * (y - 1) + (y - 1) / 4 - (y - 1) / 100 + (y - 1) / 400 - 719162
def leap (y : Int) : Bool := y % 4 == 0 && (y % 100 != 0 || y % 400 == 0)
def mdays (y m : Int) : Int := if m = 2 then (if leap y then 29 else 28) else if m = 4 ∨ m = 6 ∨ m = 9 ∨ m = 11 then 30 else 31
def before (y m : Int) : Int :=
 let l : Int := if leap y then 1 else 0
 if m ≤ 1 then 0 else if m = 2 then 31 else if m = 3 then 59 + l else if m = 4 then 90 + l else if m = 5 then 120 + l else if m = 6 then 151 + l
 else if m = 7 then 181 + l else if m = 8 then 212 + l else if m = 9 then 243 + l else if m = 10 then 273 + l else if m = 11 then 304 + l else if m = 12 then 334 + l else 365 + l
def day (y m d : Int) : Int := ys y + before y m + d - 1
def Valid (y m d : Int) : Prop := 1 ≤ m ∧ m ≤ 12 ∧ 1 ≤ d ∧ d ≤ mdays y m
theorem leap_iff (y : Int) : leap y = true ↔ y % 4 = 0 ∧ (y % 100 ≠ 0 ∨ y % 400 = 0) := by
 simp [leap]
theorem ys_succ (y : Int) : ys (y + 1) = ys y + (if leap y then 366 else 365) := by
 cases h : leap y with
 | true => have := (leap_iff y).1 h; simp only [ys, if_true]; omega
 | false =>
  have : ¬ (y % 4 = 0 ∧ (y % 100 ≠ 0 ∨ y % 400 = 0)) := fun hh => by rw [(leap_iff y).2 hh] at h; cases h
  simp only [ys, Bool.false_eq_true, if_false]; omega
theorem before_succ (y m : Int) (h1 : 1 ≤ m) (h2 : m ≤ 12) : before y (m + 1) = before y m + mdays y m := by
 have : m = 1 ∨ m = 2 ∨ m = 3 ∨ m = 4 ∨ m = 5 ∨ m = 6 ∨ m = 7 ∨ m = 8 ∨ m = 9 ∨ m = 10 ∨ m = 11 ∨ m = 12 := by omega
 rcases this with rfl | rfl | rfl | rfl | rfl | rfl | rfl | rfl | rfl | rfl | rfl | rfl <;> cases h : leap y <;> simp [before, mdays, h] <;> omega
theorem before_13 (y : Int) : before y 13 = if leap y then 366 else 365 := by cases h : leap y <;> simp [before, h]
theorem before_1 (y : Int) : before y 1 = 0 := by simp [before]
theorem before_mono (y : Int) {m m' : Int} (h : m ≤ m') : before y m ≤ before y m' := by
 unfold before
 cases leap y <;> simp only [Bool.false_eq_true, if_false, if_true] <;> repeat' split
 all_goals omega
theorem before_lt (y : Int) {m m' : Int} (h0 : 1 ≤ m) (h1 : m ≤ 12) (h : m < m') : before y m + mdays y m ≤ before y m' := by
 rw [← before_succ y m h0 h1]; exact before_mono y (by omega)
theorem mdays_pos (y m : Int) : 28 ≤ mdays y m ∧ mdays y m ≤ 31 := by unfold mdays; repeat' split <;> omega
theorem ys_lt {y y' : Int} (h : y < y') : ys y + (if leap y then 366 else 365) ≤ ys y' := by
 rw [← ys_succ]; unfold ys; omega
theorem day_in {y m d : Int} (h : Valid y m d) : ys y ≤ day y m d ∧ day y m d < ys (y + 1) := by
 obtain ⟨h1, h2, h3, h4⟩ := h
 have a := before_mono y (show (1 : Int) ≤ m from h1)
 rw [before_1] at a
 have b := before_lt y h1 h2 (show m < 13 by omega)
 rw [before_13] at b
 rw [ys_succ]
 unfold day
 omega
theorem day_inj {y m d y' m' d' : Int} (h : Valid y m d) (h' : Valid y' m' d') (e : day y m d = day y' m' d') : y = y' ∧ m = m' ∧ d = d' := by
 have a := day_in h
 have b := day_in h'
 have hy : y = y' := by
  rcases Int.lt_trichotomy y y' with l | l | l
  ·have := ys_lt l; rw [← ys_succ] at this; omega
  ·exact l
  ·have := ys_lt l; rw [← ys_succ] at this; omega
 subst hy
 obtain ⟨h1, h2, h3, h4⟩ := h
 obtain ⟨g1, g2, g3, g4⟩ := h'
 unfold day at e
 have hm : m = m' := by
  rcases Int.lt_trichotomy m m' with l | l | l
  ·have := before_lt y h1 h2 l; omega
  ·exact l
  ·have := before_lt y g1 g2 l; omega
 subst hm
 exact ⟨rfl, rfl, by omega⟩
def mday (Y am d : Int) : Int := 365 * Y + Y / 4 - Y / 100 + Y / 400 + (153 * am - 457) / 5 + d - 1 - 719468
theorem mday_day (Y am d : Int) (h1 : 3 ≤ am) (h2 : am ≤ 14) : mday Y am d = day (Y + (if am > 12 then 1 else 0)) (if am > 12 then am - 12 else am) d := by
 have c : am = 3 ∨ am = 4 ∨ am = 5 ∨ am = 6 ∨ am = 7 ∨ am = 8 ∨ am = 9 ∨ am = 10 ∨ am = 11 ∨ am = 12 ∨ am = 13 ∨ am = 14 := by omega
 have hl : leap Y = true → Y % 4 = 0 ∧ (Y % 100 ≠ 0 ∨ Y % 400 = 0) := (leap_iff Y).1
 have hn : leap Y = false → ¬ (Y % 4 = 0 ∧ (Y % 100 ≠ 0 ∨ Y % 400 = 0)) := fun h hh => by rw [(leap_iff Y).2 hh] at h; cases h
 rcases c with rfl | rfl | rfl | rfl | rfl | rfl | rfl | rfl | rfl | rfl | rfl | rfl
 all_goals
  simp only [mday, day, ys, before]
  cases h : leap Y with
  | true => have := hl h; simp [h]; omega
  | false => have := hn h; simp [h]; omega
def cen (N : Int) : Int := (4 * N + 3) / 146097
def cdy (N : Int) : Int := (4 * N + 3) % 146097 / 4
def cyr (n : Int) : Int := (4 * n + 3) / 1461
def ydy (n : Int) : Int := (4 * n + 3) % 1461 / 4
def amo (yd : Int) : Int := (5 * yd + 461) / 153
def amd (yd : Int) : Int := (5 * yd + 461) % 153 / 5 + 1
theorem parts (N : Int) : N = 146097 * cen N / 4 + cdy N ∧ 0 ≤ cdy N ∧ cdy N ≤ 36524 := by unfold cen cdy; omega
theorem parts2 (n : Int) (h0 : 0 ≤ n) (h : n ≤ 36524) : n = 1461 * cyr n / 4 + ydy n ∧ 0 ≤ cyr n ∧ cyr n ≤ 99 ∧ 0 ≤ ydy n ∧ ydy n ≤ 365 := by unfold cyr ydy; omega
theorem parts3 (yd : Int) (h0 : 0 ≤ yd) (h : yd ≤ 365) : yd = (153 * amo yd - 457) / 5 + amd yd - 1 ∧ 3 ≤ amo yd ∧ amo yd ≤ 14 ∧ 1 ≤ amd yd ∧ amd yd ≤ 31 := by unfold amo amd; omega
def off : Int := 719468 + 106751990353932
def absYears : Int := 292277022400
def aY (N : Int) : Int := 100 * cen N + cyr (cdy N) - absYears
def aM (N : Int) : Int := amo (ydy (cdy N))
def aD (N : Int) : Int := amd (ydy (cdy N))
theorem year_parts (c cy : Int) (h0 : 0 ≤ cy) (h1 : cy ≤ 99) :
  (100 * c + cy - absYears) / 4 = 25 * c + cy / 4 - 73069255600 ∧ (100 * c + cy - absYears) / 100 = c - 2922770224 ∧ (100 * c + cy - absYears) / 400 = c / 4 - 730692556 := by
 unfold absYears; omega
theorem abs_mday (N : Int) : mday (aY N) (aM N) (aD N) = N - off := by
 have h1 := parts N
 have h2 := parts2 (cdy N) h1.2.1 h1.2.2
 have h3 := parts3 (ydy (cdy N)) h2.2.2.2.1 h2.2.2.2.2
 have hy := year_parts (cen N) (cyr (cdy N)) h2.2.1 h2.2.2.1
 unfold mday
 rw [show aY N = 100 * cen N + cyr (cdy N) - absYears from rfl, hy.1, hy.2.1, hy.2.2, show aM N = amo (ydy (cdy N)) from rfl, show aD N = amd (ydy (cdy N)) from rfl]
 have e1 := h1.1
 have e2 := h2.1
 have e3 := h3.1
 have b0 := h2.2.1
 clear h1 h2 h3 hy
 unfold off absYears
 generalize cyr (cdy N) = cy at *
 generalize ydy (cdy N) = yd at *
 generalize cdy N = n at *
 generalize cen N = c at *
 generalize (153 * amo yd - 457) / 5 = q at *
 generalize amd yd = md at *
 have f1 : 146097 * c / 4 = 36524 * c + c / 4 := by omega
 have f2 : 1461 * cy / 4 = 365 * cy + cy / 4 := by omega
 rw [f1] at e1
 rw [f2] at e2
 omega
def cY (N : Int) : Int := aY N + (if aM N > 12 then 1 else 0)
def cM (N : Int) : Int := if aM N > 12 then aM N - 12 else aM N
theorem abs_day (N : Int) : day (cY N) (cM N) (aD N) = N - off := by
 have h1 := parts N
 have h2 := parts2 (cdy N) h1.2.1 h1.2.2
 have h3 := parts3 (ydy (cdy N)) h2.2.2.2.1 h2.2.2.2.2
 rw [← abs_mday]
 exact (mday_day (aY N) (aM N) (aD N) h3.2.1 h3.2.2.1).symm
theorem leap_of (c cy : Int) (h0 : 0 ≤ cy) (h1 : cy ≤ 99) (h3 : cy % 4 = 3) (hc : cy = 99 → c % 4 = 3) :
  (100 * c + cy - absYears + 1) % 4 = 0 ∧ ((100 * c + cy - absYears + 1) % 100 ≠ 0 ∨ (100 * c + cy - absYears + 1) % 400 = 0) := by
 unfold absYears
 refine ⟨by omega, ?_⟩
 by_cases h : cy = 99
 ·have := hc h
  right; omega
 ·left; omega
theorem abs_valid (N : Int) : Valid (cY N) (cM N) (aD N) := by
 have h1 := parts N
 have h2 := parts2 (cdy N) h1.2.1 h1.2.2
 have h3 := parts3 (ydy (cdy N)) h2.2.2.2.1 h2.2.2.2.2
 have d4 : amo (ydy (cdy N)) = (5 * ydy (cdy N) + 461) / 153 := rfl
 have d5 : amd (ydy (cdy N)) = (5 * ydy (cdy N) + 461) % 153 / 5 + 1 := rfl
 have r3 : 3 ≤ aM N := h3.2.1
 have r14 : aM N ≤ 14 := h3.2.2.1
 have q1 : 1 ≤ aD N := h3.2.2.2.1
 have hm : (aM N ≤ 12 → cM N = aM N) ∧ (12 < aM N → cM N = aM N - 12) := by
  unfold cM; constructor <;> intro h
  ·rw [if_neg (by omega)]
  ·rw [if_pos (by omega)]
 refine ⟨by omega, by omega, q1, ?_⟩
 have hD : aD N ≤ (if aM N = 14 then 29 else if aM N = 4 ∨ aM N = 6 ∨ aM N = 9 ∨ aM N = 11 then 30 else 31) := by
  have e1 : aM N = amo (ydy (cdy N)) := rfl
  have e2 : aD N = amd (ydy (cdy N)) := rfl
  rw [e1, e2, d4, d5]
  have a0 := h2.2.2.2.1
  have a1 := h2.2.2.2.2
  clear h1 h2 h3 hm e1 e2 d4 d5 r3 r14 q1
  generalize ydy (cdy N) = yd at *
  split
  ·omega
  ·split <;> omega
 unfold mdays
 by_cases h14 : aM N = 14
 ·rw [if_pos h14] at hD
  rw [if_pos (by omega)]
  cases hl : leap (cY N) with
  | true => simpa using hD
  | false =>
   have hn : ¬ (cY N % 4 = 0 ∧ (cY N % 100 ≠ 0 ∨ cY N % 400 = 0)) := fun hh => by rw [(leap_iff _).2 hh] at hl; cases hl
   have hY : cY N = 100 * cen N + cyr (cdy N) - absYears + 1 := by unfold cY; rw [if_pos (by omega)]; rfl
   suffices h : aD N ≠ 29 by simp; omega
   intro h29
   apply hn
   have y365 : ydy (cdy N) = 365 := by
    have e1 : aM N = amo (ydy (cdy N)) := rfl
    have e2 : aD N = amd (ydy (cdy N)) := rfl
    rw [e1, d4] at h14
    rw [e2, d5] at h29
    have := h2.2.2.2.2
    clear h1 h2 h3 hm d4 d5 r3 r14 q1 hD hl hn hY
    omega
   have d3 : ydy (cdy N) = (4 * cdy N + 3) % 1461 / 4 := rfl
   have d2 : cyr (cdy N) = (4 * cdy N + 3) / 1461 := rfl
   have d1 : cdy N = (4 * N + 3) % 146097 / 4 := rfl
   have d0 : cen N = (4 * N + 3) / 146097 := rfl
   have c3 : cyr (cdy N) % 4 = 3 := by
    rw [y365] at d3
    have := h1.2.1
    clear h1 h2 h3 hm d4 d5 r3 r14 q1 hD hl hn hY d1 d0
    generalize cdy N = n at *
    omega
   have b0 := h2.2.1
   have b9 := h2.2.2.1
   have cc : cyr (cdy N) = 99 → cen N % 4 = 3 := by
    intro h99
    have n1 : cdy N = 36524 := by
     have e2 := h2.1
     have := h1.2.2
     rw [h99, y365] at e2
     omega
    rw [n1] at d1
    clear h1 h2 h3 hm d4 d5 r3 r14 q1 hD hl hn hY d2 d3
    omega
   rw [hY]
   exact leap_of _ _ b0 b9 c3 cc
 ·rw [if_neg h14] at hD
  by_cases h12 : aM N ≤ 12
  ·have e := hm.1 h12
   rw [e, if_neg (by omega)]
   exact hD
  ·have e := hm.2 (by omega)
   rw [if_neg (by omega), if_neg (by omega)]
   rw [if_neg (by omega)] at hD
   exact hD
end Go.Proofs.YtcjdideliifkhaaGreatDoor.Cal
