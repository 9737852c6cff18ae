import Derived.Test.YtcjdideliifkhaaGreatDoorB08
set_option maxRecDepth 100000
set_option maxHeartbeats 16000000
namespace Go.Proofs.YtcjdideliifkhaaGreatDoor.Cal
def Y (n : Int) : Int := cY (n + off)
def M (n : Int) : Int := cM (n + off)
def D (n : Int) : Int := aD (n + off)
def W (n : Int) : Int := (n + 4) % 7
theorem date_day (n : Int) : day (Y n) (M n) (D n) = n := by
 have := abs_day (n + off); unfold Y M D; omega
theorem date_valid (n : Int) : Valid (Y n) (M n) (D n) := abs_valid (n + off)
theorem date_of {y m d : Int} (h : Valid y m d) : Y (day y m d) = y ∧ M (day y m d) = m ∧ D (day y m d) = d :=
 day_inj (date_valid _) h (date_day _)
theorem date_at {n y m d : Int} (h : Valid y m d) (e : day y m d = n) : Y n = y ∧ M n = m ∧ D n = d := by subst e; exact date_of h
theorem day_add (y m d k : Int) : day y m (d + k) = day y m d + k := by unfold day; omega
theorem day_13 (y d : Int) : day y 13 d = day (y + 1) 1 d := by
 unfold day; rw [before_13, before_1, ys_succ]; omega
theorem day_next {y m : Int} (h1 : 1 ≤ m) (h2 : m ≤ 12) (d : Int) : day y (m + 1) d = day y m (d + mdays y m) := by
 unfold day; rw [before_succ y m h1 h2]; omega
theorem tomorrow (n : Int) : (D n < mdays (Y n) (M n) → Y (n + 1) = Y n ∧ M (n + 1) = M n ∧ D (n + 1) = D n + 1) ∧
  (¬ D n < mdays (Y n) (M n) → M n < 12 → Y (n + 1) = Y n ∧ M (n + 1) = M n + 1 ∧ D (n + 1) = 1) ∧
  (¬ D n < mdays (Y n) (M n) → ¬ M n < 12 → Y (n + 1) = Y n + 1 ∧ M (n + 1) = 1 ∧ D (n + 1) = 1) := by
 have v := date_valid n
 have e := date_day n
 have p := mdays_pos (Y n) (M n + 1)
 have p' := mdays_pos (Y n + 1) 1
 obtain ⟨v1, v2, v3, v4⟩ := v
 refine ⟨fun h => date_at ⟨v1, v2, by omega, by omega⟩ (by rw [day_add, e]), fun h h' => date_at ⟨by omega, by omega, by omega, by omega⟩ ?_, fun h h' => date_at ⟨by omega, by omega, by omega, by omega⟩ ?_⟩
 ·rw [day_next v1 v2, show 1 + mdays (Y n) (M n) = D n + 1 by omega, day_add, e]
 ·rw [← day_13, show (13 : Int) = M n + 1 by omega, day_next v1 v2, show 1 + mdays (Y n) (M n) = D n + 1 by omega, day_add, e]
theorem Y_bounds (n : Int) : ys (Y n) ≤ n ∧ n < ys (Y n + 1) := by
 have := day_in (date_valid n); rw [date_day] at this; exact this
theorem Y_mono {n m : Int} (h : n ≤ m) : Y n ≤ Y m := by
 have a := Y_bounds n
 have b := Y_bounds m
 by_cases c : Y m < Y n
 ·have : ys (Y m + 1) ≤ ys (Y n) := by
   rcases Int.lt_or_eq_of_le (show Y m + 1 ≤ Y n by omega) with c | c
   ·have := ys_lt c; split at this <;> omega
   ·rw [c]; exact Int.le_refl _
  omega
 ·omega
def nm (n : Int) : Int := n - D n + 1 + mdays (Y n) (M n)
theorem nm_gt (n : Int) : n < nm n ∧ nm n ≤ n + 31 := by
 have v := date_valid n
 have p := mdays_pos (Y n) (M n)
 obtain ⟨v1, v2, v3, v4⟩ := v
 unfold nm; omega
theorem nm_day (n : Int) : nm n = day (Y n) (M n + 1) 1 := by
 have v := date_valid n
 have e := date_day n
 rw [day_next v.1 v.2.1, show 1 + mdays (Y n) (M n) = D n + (1 - D n + mdays (Y n) (M n)) by omega, day_add, e]
 unfold nm; omega
theorem nm_date (n : Int) : (M n < 12 → Y (nm n) = Y n ∧ M (nm n) = M n + 1 ∧ D (nm n) = 1) ∧ (M n = 12 → Y (nm n) = Y n + 1 ∧ M (nm n) = 1 ∧ D (nm n) = 1) := by
 have v := date_valid n
 have p := mdays_pos (Y n) (M n + 1)
 have p' := mdays_pos (Y n + 1) 1
 obtain ⟨v1, v2, v3, v4⟩ := v
 refine ⟨fun h => date_at ⟨by omega, by omega, by omega, by omega⟩ (nm_day n).symm, fun h => date_at ⟨by omega, by omega, by omega, by omega⟩ ?_⟩
 rw [nm_day n, h]; exact (day_13 _ _).symm
theorem in_month {n u : Int} (h : n - D n + 1 ≤ u) (h' : u < nm n) : Y u = Y n ∧ M u = M n ∧ D u = u - n + D n := by
 have v := date_valid n
 have e := date_day n
 obtain ⟨v1, v2, v3, v4⟩ := v
 unfold nm at h'
 refine date_at ⟨v1, v2, by omega, by omega⟩ ?_
 rw [show u - n + D n = D n + (u - n) by omega, day_add, e]; omega
structure F where
 mo : Int → Bool
 dom : Int → Bool
 dow : Int → Bool
 ho : Int → Bool
 mi : Int → Bool
 se : Int → Bool
 star : Bool
def dayFits (f : F) (n : Int) : Bool := if f.star then f.dom (D n) && f.dow (W n) else f.dom (D n) || f.dow (W n)
def fits (f : F) (s : Int) : Bool :=
 f.mo (M (s / 86400)) && dayFits f (s / 86400) && f.ho (s % 86400 / 3600) && f.mi (s % 3600 / 60) && f.se (s % 60)
def Quiet (f : F) (a b : Int) : Prop := ∀ u, a ≤ u → u < b → fits f u = false
theorem Quiet.trans {f : F} {a b c : Int} (h : Quiet f a b) (h' : Quiet f b c) : Quiet f a c := by
 intro u h1 h2
 by_cases hb : u < b
 ·exact h u h1 hb
 ·exact h' u (by omega) h2
theorem Quiet.nil (f : F) {a b : Int} (h : b ≤ a) : Quiet f a b := fun u h1 h2 => by omega
theorem quiet_month {f : F} {t : Int} (h : f.mo (M (t / 86400)) = false) : Quiet f t (86400 * nm (t / 86400)) := by
 intro u h1 h2
 have v := date_valid (t / 86400)
 have := (in_month (n := t / 86400) (u := u / 86400) (by have := v.2.2.1; omega) (by omega)).2.1
 unfold fits; rw [this, h]; rfl
theorem quiet_day {f : F} {t : Int} (h : dayFits f (t / 86400) = false) : Quiet f t (86400 * (t / 86400 + 1)) := by
 intro u h1 h2
 have : u / 86400 = t / 86400 := by omega
 unfold fits; rw [this, h]; simp
theorem quiet_hour {f : F} {t : Int} (h : f.ho (t % 86400 / 3600) = false) : Quiet f t (3600 * (t / 3600 + 1)) := by
 intro u h1 h2
 have : u % 86400 / 3600 = t % 86400 / 3600 := by omega
 unfold fits; rw [this, h]; simp
theorem quiet_minute {f : F} {t : Int} (h : f.mi (t % 3600 / 60) = false) : Quiet f t (60 * (t / 60 + 1)) := by
 intro u h1 h2
 have : u % 3600 / 60 = t % 3600 / 60 := by omega
 unfold fits; rw [this, h]; simp
theorem quiet_second {f : F} {t : Int} (h : f.se (t % 60) = false) : Quiet f t (t + 1) := by
 intro u h1 h2
 have : u = t := by omega
 subst this
 unfold fits; rw [h]; simp
def Ans (f : F) (first last : Int) : Option Int → Prop
 | some v => first ≤ v ∧ fits f v = true ∧ Y (v / 86400) ≤ last ∧ Quiet f first v
 | none => ∀ u, first ≤ u → Y (u / 86400) ≤ last → fits f u = false
theorem Ans.unique {f : F} {first last : Int} {r r' : Option Int} (h : Ans f first last r) (h' : Ans f first last r') : r = r' := by
 cases r with
 | none =>
  cases r' with
  | none => rfl
  | some v => have := h v h'.1 h'.2.2.1; rw [h'.2.1] at this; cases this
 | some v =>
  cases r' with
  | none => have := h' v h.1 h.2.2.1; rw [h.2.1] at this; cases this
  | some v' =>
   rcases Int.lt_trichotomy v v' with c | c | c
   ·have := h'.2.2.2 v h.1 c; rw [h.2.1] at this; cases this
   ·rw [c]
   ·have := h.2.2.2 v' h'.1 c; rw [h'.2.1] at this; cases this
theorem Ans.none_of {f : F} {first last t : Int} (h : Quiet f first t) (hy : last < Y (t / 86400)) : Ans f first last none := by
 intro u h1 h2
 by_cases c : u < t
 ·exact h u h1 c
 ·have := Y_mono (show t / 86400 ≤ u / 86400 by omega); omega
def Al (f : F) (t : Int) : Prop :=
 (D (t / 86400) = 1 ∧ t % 86400 = 0) ∨
 (f.mo (M (t / 86400)) = true ∧ (t % 86400 = 0 ∨ (dayFits f (t / 86400) = true ∧ (t % 3600 = 0 ∨ (f.ho (t % 86400 / 3600) = true ∧ (t % 60 = 0 ∨ f.mi (t % 3600 / 60) = true))))))
theorem Al.month {f : F} {t : Int} (h : Al f t) (hm : f.mo (M (t / 86400)) = false) : D (t / 86400) = 1 ∧ t % 86400 = 0 := by
 rcases h with h | h
 ·exact h
 ·rw [hm] at h; exact absurd h.1 (by simp)
theorem Al.day {f : F} {t : Int} (h : Al f t) (hd : dayFits f (t / 86400) = false) : t % 86400 = 0 := by
 rcases h with h | ⟨_, h | h⟩
 ·exact h.2
 ·exact h
 ·rw [hd] at h; exact absurd h.1 (by simp)
theorem Al.hour {f : F} {t : Int} (h : Al f t) (hh : f.ho (t % 86400 / 3600) = false) : t % 3600 = 0 := by
 rcases h with h | ⟨_, h | ⟨_, h | h⟩⟩
 ·have := h.2; omega
 ·omega
 ·exact h
 ·rw [hh] at h; exact absurd h.1 (by simp)
theorem Al.minute {f : F} {t : Int} (h : Al f t) (hh : f.mi (t % 3600 / 60) = false) : t % 60 = 0 := by
 rcases h with h | ⟨_, h | ⟨_, h | ⟨_, h | h⟩⟩⟩
 ·have := h.2; omega
 ·omega
 ·omega
 ·exact h
 ·rw [hh] at h; exact absurd h (by simp)
theorem Al.next_day {f : F} {t : Int} (hm : f.mo (M (t / 86400 - 1)) = true) (h : t % 86400 = 0) : Al f t := by
 have b := tomorrow (t / 86400 - 1)
 rw [show t / 86400 - 1 + 1 = t / 86400 by omega] at b
 by_cases c : D (t / 86400) = 1
 ·exact .inl ⟨c, h⟩
 ·refine .inr ⟨?_, .inl h⟩
  by_cases c1 : D (t / 86400 - 1) < mdays (Y (t / 86400 - 1)) (M (t / 86400 - 1))
  ·rw [(b.1 c1).2.1]; exact hm
  ·by_cases c2 : M (t / 86400 - 1) < 12
   ·exact absurd (b.2.1 c1 c2).2.2 c
   ·exact absurd (b.2.2 c1 c2).2.2 c
theorem Al.next_hour {f : F} {t : Int} (hm : f.mo (M ((t - 3600) / 86400)) = true) (hd : dayFits f ((t - 3600) / 86400) = true) (h : t % 3600 = 0) : Al f t := by
 by_cases c : t % 86400 = 0
 ·exact Al.next_day (by rw [show t / 86400 - 1 = (t - 3600) / 86400 by omega]; exact hm) c
 ·rw [show (t - 3600) / 86400 = t / 86400 by omega] at hm hd
  exact .inr ⟨hm, .inr ⟨hd, .inl h⟩⟩
theorem Al.next_minute {f : F} {t : Int} (hm : f.mo (M ((t - 60) / 86400)) = true) (hd : dayFits f ((t - 60) / 86400) = true)
  (hh : f.ho ((t - 60) % 86400 / 3600) = true) (h : t % 60 = 0) : Al f t := by
 by_cases c : t % 3600 = 0
 ·exact Al.next_hour (by rw [show (t - 3600) / 86400 = (t - 60) / 86400 by omega]; exact hm) (by rw [show (t - 3600) / 86400 = (t - 60) / 86400 by omega]; exact hd) c
 ·rw [show (t - 60) / 86400 = t / 86400 by omega] at hm hd
  rw [show (t - 60) % 86400 / 3600 = t % 86400 / 3600 by omega] at hh
  exact .inr ⟨hm, .inr ⟨hd, .inr ⟨hh, .inl h⟩⟩⟩
theorem Al.next_second {f : F} {t : Int} (hm : f.mo (M ((t - 1) / 86400)) = true) (hd : dayFits f ((t - 1) / 86400) = true)
  (hh : f.ho ((t - 1) % 86400 / 3600) = true) (hi : f.mi ((t - 1) % 3600 / 60) = true) : Al f t := by
 by_cases c : t % 60 = 0
 ·exact Al.next_minute (by rw [show (t - 60) / 86400 = (t - 1) / 86400 by omega]; exact hm) (by rw [show (t - 60) / 86400 = (t - 1) / 86400 by omega]; exact hd) (by rw [show (t - 60) % 86400 / 3600 = (t - 1) % 86400 / 3600 by omega]; exact hh) c
 ·rw [show (t - 1) / 86400 = t / 86400 by omega] at hm hd
  rw [show (t - 1) % 86400 / 3600 = t % 86400 / 3600 by omega] at hh
  rw [show (t - 1) % 3600 / 60 = t % 3600 / 60 by omega] at hi
  exact .inr ⟨hm, .inr ⟨hd, .inr ⟨hh, .inr hi⟩⟩⟩
end Go.Proofs.YtcjdideliifkhaaGreatDoor.Cal
namespace Go.Proofs.YtcjdideliifkhaaGreatDoor
open Go.RowKit
set_option linter.unusedVariables false
set_option linter.unusedSimpArgs false
theorem wraps_u32 (n : Int) (h₀ : 0 ≤ n) (h₁ : n < 2 ^ 32) : IntKind.u32.wrap n = n := by rw [IntKind.wrap_u32]; omega
theorem or_three {x : Int} (h0 : 0 ≤ x) (h : x < 146097) : bits .or .u32 x 3 = 4 * (x / 4) + 3 := by
 obtain ⟨a, rfl⟩ := Int.eq_ofNat_of_zero_le h0
 rw [show (3 : Int) = ((3 : Nat) : Int) from rfl, (bits_nat .u32 32 (by decide) wraps_u32 a 3 (by omega) (by decide)).2]
 have h1 : a = 2 ^ 2 * (a / 4) + a % 4 := by omega
 have h2 : a ||| 3 = 4 * (a / 4) + 3 := by
  have e1 : 2 ^ 2 * (a / 4) + a % 4 = 2 ^ 2 * (a / 4) ||| a % 4 := Nat.two_pow_add_eq_or_of_lt (by omega) _
  have e2 : 2 ^ 2 * (a / 4) + 3 = 2 ^ 2 * (a / 4) ||| 3 := Nat.two_pow_add_eq_or_of_lt (by decide) _
  have e3 : ∀ b, b < 4 → b ||| 3 = 3 := by decide
  rw [show a ||| 3 = (2 ^ 2 * (a / 4) ||| a % 4) ||| 3 by rw [← e1, ← h1], Nat.or_assoc, e3 _ (by omega), ← e2]
 rw [h2]; omega
theorem neri {c : Int} (h0 : 0 ≤ c) (h : c ≤ 36524) : 2939745 * (4 * c + 3) / 4294967296 = Cal.cyr c ∧ 2939745 * (4 * c + 3) % 4294967296 / 2939745 / 4 = Cal.ydy c := by
 unfold Cal.cyr Cal.ydy
 have e1 : 4 * c + 3 = 1461 * ((4 * c + 3) / 1461) + (4 * c + 3) % 1461 := by omega
 have e2 : 0 ≤ (4 * c + 3) / 1461 ∧ (4 * c + 3) / 1461 ≤ 100 := by omega
 have e3 : 0 ≤ (4 * c + 3) % 1461 ∧ (4 * c + 3) % 1461 < 1461 := by omega
 generalize (4 * c + 3) / 1461 = q at *
 generalize (4 * c + 3) % 1461 = r at *
 have e4 : 2939745 * (4 * c + 3) = 4294967296 * q + (149 * q + 2939745 * r) := by omega
 have e5 : 2939745 * (4 * c + 3) / 4294967296 = q := by omega
 have e6 : 2939745 * (4 * c + 3) % 4294967296 = 149 * q + 2939745 * r := by omega
 have e7 : (149 * q + 2939745 * r) / 2939745 = r := by omega
 exact ⟨e5, by rw [e6, e7]⟩
theorem neri2 (n : Nat) (h : n < 367) : (2141 * (n : Int) + 197913) / 65536 = (5 * (n : Int) + 461) / 153 ∧ (2141 * (n : Int) + 197913) % 65536 / 2141 = (5 * (n : Int) + 461) % 153 / 5 := by
 have : ∀ n : Nat, n < 367 → (2141 * (n : Int) + 197913) / 65536 = (5 * (n : Int) + 461) / 153 ∧ (2141 * (n : Int) + 197913) % 65536 / 2141 = (5 * (n : Int) + 461) % 153 / 5 := by decide +kernel
 exact this n h
theorem mul32_c (x y : Int) (hx0 : 0 ≤ x) (hx : x < 4294967296) (hy0 : 0 ≤ y) (hy : y < 4294967296) (hxy : x * y < 18446744073709551616) (hxy0 : 0 ≤ x * y) (w : World) :
  Calls Tryz.prog 230 #[.int .u32 x, .int .u32 y] w fun r w' => r = .returned (.tuple #[.int .u32 (x * y / 4294967296), .int .u32 (x * y % 4294967296)]) ∧ w = w' := by
 go_enter Tryz.func230, Tryz.ntmps230
 go_wp2
 go_ret2
 exact ⟨rfl, rfl⟩
theorem days_c (x : Int) (hx0 : 0 ≤ x) (hx : x < 18446744073709551616) (w : World) :
  Calls Tryz.prog 215 #[.int .u64 x] w fun r w' => r = .returned (.int .u64 (x / 86400)) ∧ w = w' := by
 go_enter Tryz.func215, Tryz.ntmps215
 go_wp2
 go_ret
 exact ⟨rfl, rfl⟩
theorem dsplit_c (N : Int) (h0 : 0 ≤ N) (h1 : N < 213600000000000) (w : World) :
  Calls Tryz.prog 216 #[.int .u64 N] w fun r w' => r = .returned (.tuple #[.int .u64 (Cal.cen N), .int .i64 (Cal.cyr (Cal.cdy N)), .int .i64 (Cal.ydy (Cal.cdy N))]) ∧ w = w' := by
 have hp := Cal.parts N
 have hc : (4 * N + 3) / 146097 = Cal.cen N := rfl
 have hor : bits .or .u32 ((4 * N + 3) % 146097) 3 = 4 * Cal.cdy N + 3 := or_three (by omega) (by omega)
 have hn := neri hp.2.1 hp.2.2
 have q0 := hp.2.1
 have q1 := hp.2.2
 clear hp
 generalize hcc : Cal.cdy N = c at *
 generalize hxx : (4 * N + 3) % 146097 = x at *
 have hx0 : 0 ≤ x := by omega
 have hx1 : x < 146097 := by omega
 obtain ⟨n1, n2⟩ := hn
 go_enter Tryz.func216, Tryz.ntmps216
 go_wp2_with fail
 refine (mul32_c 2939745 (4 * c + 3) (by decide) (by decide) (by omega) (by omega) (by omega) (by omega) _).mono ?_
 rintro r w' ⟨rfl, rfl⟩
 go_wp2
 exact bodyPost_ret (v := .tuple #[.int .u64 (Cal.cen N), .int .i64 (Cal.cyr c), .int .i64 (Cal.ydy c)]) (by simp [results, Tryz.f216, go_sem]) rfl ⟨rfl, rfl⟩
theorem ysplit_c (y : Int) (h0 : 0 ≤ y) (h1 : y ≤ 366) (w : World) :
  Calls Tryz.prog 217 #[.int .i64 y] w fun r w' => r = .returned (.tuple #[.int .i64 (Cal.amo y), .int .i64 (Cal.amd y)]) ∧ w = w' := by
 obtain ⟨n, rfl⟩ := Int.eq_ofNat_of_zero_le h0
 have hn := neri2 n (by omega)
 have e1 : (2141 * (n : Int) + 197913) / 65536 = Cal.amo n := hn.1
 have e2 : (2141 * (n : Int) + 197913) % 65536 / 2141 = Cal.amd n - 1 := by
  rw [hn.2]; unfold Cal.amd; omega
 have e3 : bits .and .u32 (2141 * (n : Int) + 197913) 65535 = (2141 * (n : Int) + 197913) % 65536 := bits_mask .u32 32 (by decide) wraps_u32 16 (by decide) _ (by omega) (by omega)
 have e4 : 1 + (Cal.amd (n : Int) - 1) = Cal.amd (n : Int) := by omega
 have b1 : 1 ≤ Cal.amd (n : Int) ∧ Cal.amd (n : Int) ≤ 31 := by unfold Cal.amd; omega
 have b2 : 0 ≤ Cal.amo (n : Int) ∧ Cal.amo (n : Int) ≤ 20 := by unfold Cal.amo; omega
 clear hn
 obtain ⟨b3, b4⟩ := b1
 obtain ⟨b5, b6⟩ := b2
 go_enter Tryz.func217, Tryz.ntmps217
 go_wp2
 go_ret2
 exact ⟨rfl, rfl⟩
theorem janFeb_c (y : Int) (w : World) :
  Calls Tryz.prog 219 #[.int .i64 y] w fun r w' => r = .returned (.int .i64 (if 306 ≤ y then 1 else 0)) ∧ w = w' := by
 by_cases c : 306 ≤ y
 ·rw [if_pos c]
  go_enter Tryz.func219, Tryz.ntmps219
  go_wp2
  go_ret
  exact ⟨rfl, rfl⟩
 ·rw [if_neg c]
  go_enter Tryz.func219, Tryz.ntmps219
  go_wp2
  go_ret
  exact ⟨rfl, rfl⟩
theorem month_c (m j : Int) (h0 : 0 ≤ m) (h1 : m ≤ 20) (j0 : 0 ≤ j) (j1 : j ≤ 1) (w : World) :
  Calls Tryz.prog 221 #[.int .i64 m, .int .i64 j] w fun r w' => r = .returned (.int .i64 (m - j * 12)) ∧ w = w' := by
 go_enter Tryz.func221, Tryz.ntmps221
 go_wp2
 go_ret
 exact ⟨rfl, rfl⟩
theorem wrap_i64_u64 {x : Int} (h0 : -9223372036854775808 ≤ x) (h1 : x ≤ 9223372036854775807) : wrap64 (IntKind.u64.wrap x) = x := by
 have : IntKind.u64.wrap x = x % 18446744073709551616 := by simp [IntKind.wrap, IntKind.bits, IntKind.signed]
 rw [this]; unfold wrap64; omega
theorem year_c (c y j : Int) (h0 : 0 ≤ c) (h1 : c < 5845540448) (y0 : 0 ≤ y) (y1 : y ≤ 100) (j0 : 0 ≤ j) (j1 : j ≤ 1) (w : World) :
  Calls Tryz.prog 220 #[.int .u64 c, .int .i64 y, .int .i64 j] w fun r w' => r = .returned (.int .i64 (100 * c - 292277022400 + y + j)) ∧ w = w' := by
 go_enter Tryz.func220, Tryz.ntmps220
 go_wp2
 go_ret
 refine ⟨?_, rfl⟩
 have e1 : wrap64 (wrap64 (wrap64 (IntKind.u64.wrap (c * 100 - 292277022400)) + y) + j) = 100 * c - 292277022400 + y + j := by
  rw [wrap_i64_u64 (by omega) (by omega), wrap_i64 (n := c * 100 - 292277022400 + y) (by omega) (by omega), wrap_i64 (by omega) (by omega)]; omega
 rw [← e1]
 rfl
def dn (e : Int) : Int := (e + 9223371966606163200) / 86400
theorem dn_eq (s : Int) : dn (s + 62135596800) = s / 86400 + Cal.off := by unfold dn Cal.off; omega
theorem dn_in {e : Int} (hs0 : -100000000000000 ≤ e) (hs1 : e ≤ 100000000000000) : 0 ≤ dn e ∧ dn e < 110000000000000 := by unfold dn; omega
theorem cen_in {N : Int} (h : 0 ≤ N ∧ N < 110000000000000) : 0 ≤ Cal.cen N ∧ Cal.cen N < 5845540448 := by unfold Cal.cen; omega
def jf (y : Int) : Int := if 306 ≤ y then 1 else 0
theorem jf_in (y : Int) : 0 ≤ jf y ∧ jf y ≤ 1 := by unfold jf; split <;> omega
theorem jf_amo (y : Int) : jf y = if Cal.amo y > 12 then 1 else 0 := by
 unfold jf Cal.amo
 by_cases c : 306 ≤ y
 ·rw [if_pos c, if_pos (by omega)]
 ·rw [if_neg c, if_neg (by omega)]
theorem cY_eq (N : Int) : 100 * Cal.cen N - 292277022400 + Cal.cyr (Cal.cdy N) + jf (Cal.ydy (Cal.cdy N)) = Cal.cY N := by
 unfold Cal.cY Cal.aY Cal.aM Cal.absYears; rw [jf_amo]; omega
theorem cM_eq (N : Int) : Cal.amo (Cal.ydy (Cal.cdy N)) - jf (Cal.ydy (Cal.cdy N)) * 12 = Cal.cM N := by
 unfold Cal.cM Cal.aM; rw [jf_amo]; split <;> omega
theorem amo_in (y : Int) (h : 0 ≤ y ∧ y ≤ 365) : 0 ≤ Cal.amo y ∧ Cal.amo y ≤ 20 := by unfold Cal.amo; omega
theorem cyr_in (N : Int) : 0 ≤ Cal.cyr (Cal.cdy N) ∧ Cal.cyr (Cal.cdy N) ≤ 99 := by
 have hp := Cal.parts N
 have hp2 := Cal.parts2 (Cal.cdy N) hp.2.1 hp.2.2
 exact ⟨hp2.2.1, hp2.2.2.1⟩
theorem ydy_in (N : Int) : 0 ≤ Cal.ydy (Cal.cdy N) ∧ Cal.ydy (Cal.cdy N) ≤ 365 := by
 have hp := Cal.parts N
 have hp2 := Cal.parts2 (Cal.cdy N) hp.2.1 hp.2.2
 exact ⟨hp2.2.2.2.1, hp2.2.2.2.2⟩
theorem janFeb_j (y : Int) (w : World) :
  Calls Tryz.prog 219 #[.int .i64 y] w fun r w' => r = .returned (.int .i64 (jf y)) ∧ w = w' := janFeb_c y w
theorem year_t (ns e : Int) (h0 : 0 ≤ ns) (h1 : ns < 1000000000) (hs0 : -100000000000000 ≤ e) (hs1 : e ≤ 100000000000000) (w : World) :
  Calls Tryz.prog 205 #[tm ns e (.pointer none)] w fun r w' => r = .returned (.int .i64 (Cal.cY (dn e))) ∧ Below w.heap.size w w' := by
 have hd := dn_in hs0 hs1
 have hN : (e + 9223371966606163200) / 86400 = dn e := rfl
 have hc := cen_in hd
 have hq := cyr_in (dn e)
 have hj := jf_in (Cal.ydy (Cal.cdy (dn e)))
 rw [← cY_eq]
 obtain ⟨hc0, hc1⟩ := hc
 go_enter Tryz.func205, Tryz.ntmps205
 go_wp2_with fail
 refine (absSec_c ns e h0 h1 hs0 hs1 _).mono ?_
 rintro r w1 ⟨rfl, hb⟩
 have hB : Below w.heap.size w w1 := ((Below.refl _ _).alloc (Nat.le_refl _) _).trans (hb.mono (by simp))
 clear hb
 go_wp2_with fail
 refine (days_c _ (by omega) (by omega) _).mono ?_
 rintro r w' ⟨rfl, rfl⟩
 rw [hN]
 clear hN
 go_wp2_with fail
 refine (dsplit_c (dn e) hd.1 (by omega) _).mono ?_
 rintro r w' ⟨rfl, rfl⟩
 go_wp2_with fail
 refine (janFeb_j _ _).mono ?_
 rintro r w' ⟨rfl, rfl⟩
 go_wp2_with fail
 refine (year_c _ _ _ hc0 hc1 hq.1 (by omega) hj.1 hj.2 _).mono ?_
 rintro r w' ⟨rfl, rfl⟩
 go_wp2
 go_ret
 exact ⟨rfl, hB⟩
theorem month_t (ns e : Int) (h0 : 0 ≤ ns) (h1 : ns < 1000000000) (hs0 : -100000000000000 ≤ e) (hs1 : e ≤ 100000000000000) (w : World) :
  Calls Tryz.prog 206 #[tm ns e (.pointer none)] w fun r w' => r = .returned (.int .i64 (Cal.cM (dn e))) ∧ Below w.heap.size w w' := by
 have hd := dn_in hs0 hs1
 have hN : (e + 9223371966606163200) / 86400 = dn e := rfl
 have hj := jf_in (Cal.ydy (Cal.cdy (dn e)))
 have hy := ydy_in (dn e)
 have ha := amo_in _ hy
 rw [← cM_eq]
 go_enter Tryz.func206, Tryz.ntmps206
 go_wp2_with fail
 refine (absSec_c ns e h0 h1 hs0 hs1 _).mono ?_
 rintro r w1 ⟨rfl, hb⟩
 have hB : Below w.heap.size w w1 := ((Below.refl _ _).alloc (Nat.le_refl _) _).trans (hb.mono (by simp))
 clear hb
 go_wp2_with fail
 refine (days_c _ (by omega) (by omega) _).mono ?_
 rintro r w' ⟨rfl, rfl⟩
 rw [hN]
 clear hN
 go_wp2_with fail
 refine (dsplit_c (dn e) hd.1 (by omega) _).mono ?_
 rintro r w' ⟨rfl, rfl⟩
 go_wp2_with fail
 refine (ysplit_c _ hy.1 (by omega) _).mono ?_
 rintro r w' ⟨rfl, rfl⟩
 go_wp2_with fail
 refine (janFeb_j _ _).mono ?_
 rintro r w' ⟨rfl, rfl⟩
 go_wp2_with fail
 refine (month_c _ _ ha.1 ha.2 hj.1 hj.2 _).mono ?_
 rintro r w' ⟨rfl, rfl⟩
 go_wp2
 go_ret
 exact ⟨rfl, hB⟩
theorem day_t (ns e : Int) (h0 : 0 ≤ ns) (h1 : ns < 1000000000) (hs0 : -100000000000000 ≤ e) (hs1 : e ≤ 100000000000000) (w : World) :
  Calls Tryz.prog 201 #[tm ns e (.pointer none)] w fun r w' => r = .returned (.int .i64 (Cal.aD (dn e))) ∧ Below w.heap.size w w' := by
 have hd := dn_in hs0 hs1
 have hN : (e + 9223371966606163200) / 86400 = dn e := rfl
 have hy := ydy_in (dn e)
 go_enter Tryz.func201, Tryz.ntmps201
 go_wp2_with fail
 refine (absSec_c ns e h0 h1 hs0 hs1 _).mono ?_
 rintro r w1 ⟨rfl, hb⟩
 have hB : Below w.heap.size w w1 := ((Below.refl _ _).alloc (Nat.le_refl _) _).trans (hb.mono (by simp))
 clear hb
 go_wp2_with fail
 refine (days_c _ (by omega) (by omega) _).mono ?_
 rintro r w' ⟨rfl, rfl⟩
 rw [hN]
 clear hN
 go_wp2_with fail
 refine (dsplit_c (dn e) hd.1 (by omega) _).mono ?_
 rintro r w' ⟨rfl, rfl⟩
 go_wp2_with fail
 refine (ysplit_c _ hy.1 (by omega) _).mono ?_
 rintro r w' ⟨rfl, rfl⟩
 go_wp2
 go_ret
 exact ⟨rfl, hB⟩
theorem weekdayN_c (N : Int) (h0 : 0 ≤ N) (h1 : N < 213600000000000) (w : World) :
  Calls Tryz.prog 234 #[.int .u64 N] w fun r w' => r = .returned (.int .i64 ((N + 3) % 7)) ∧ w = w' := by
 go_enter Tryz.func234, Tryz.ntmps234
 go_wp2
 go_ret
 exact ⟨rfl, rfl⟩
theorem weekday_t (ns e : Int) (h0 : 0 ≤ ns) (h1 : ns < 1000000000) (hs0 : -100000000000000 ≤ e) (hs1 : e ≤ 100000000000000) (w : World) :
  Calls Tryz.prog 227 #[tm ns e (.pointer none)] w fun r w' => r = .returned (.int .i64 ((dn e + 3) % 7)) ∧ Below w.heap.size w w' := by
 have hd := dn_in hs0 hs1
 have hN : (e + 9223371966606163200) / 86400 = dn e := rfl
 go_enter Tryz.func227, Tryz.ntmps227
 go_wp2_with fail
 refine (absSec_c ns e h0 h1 hs0 hs1 _).mono ?_
 rintro r w1 ⟨rfl, hb⟩
 have hB : Below w.heap.size w w1 := ((Below.refl _ _).alloc (Nat.le_refl _) _).trans (hb.mono (by simp))
 clear hb
 go_wp2_with fail
 refine (days_c _ (by omega) (by omega) _).mono ?_
 rintro r w' ⟨rfl, rfl⟩
 rw [hN]
 clear hN
 go_wp2_with fail
 refine (weekdayN_c (dn e) hd.1 (by omega) _).mono ?_
 rintro r w' ⟨rfl, rfl⟩
 go_wp2
 go_ret
 exact ⟨rfl, hB⟩
theorem hour_t (ns e : Int) (h0 : 0 ≤ ns) (h1 : ns < 1000000000) (hs0 : -100000000000000 ≤ e) (hs1 : e ≤ 100000000000000) (w : World) :
  Calls Tryz.prog 210 #[tm ns e (.pointer none)] w fun r w' => r = .returned (.int .i64 (e % 86400 / 3600)) ∧ Below w.heap.size w w' := by
 have hm : (e + 9223371966606163200) % 86400 = e % 86400 := by omega
 go_enter Tryz.func210, Tryz.ntmps210
 go_wp2_with fail
 refine (absSec_c ns e h0 h1 hs0 hs1 _).mono ?_
 rintro r w1 ⟨rfl, hb⟩
 have hB : Below w.heap.size w w1 := ((Below.refl _ _).alloc (Nat.le_refl _) _).trans (hb.mono (by simp))
 clear hb
 go_wp2
 go_ret
 exact ⟨rfl, hB⟩
theorem minute_t (ns e : Int) (h0 : 0 ≤ ns) (h1 : ns < 1000000000) (hs0 : -100000000000000 ≤ e) (hs1 : e ≤ 100000000000000) (w : World) :
  Calls Tryz.prog 211 #[tm ns e (.pointer none)] w fun r w' => r = .returned (.int .i64 (e % 3600 / 60)) ∧ Below w.heap.size w w' := by
 have hm : (e + 9223371966606163200) % 3600 = e % 3600 := by omega
 go_enter Tryz.func211, Tryz.ntmps211
 go_wp2_with fail
 refine (absSec_c ns e h0 h1 hs0 hs1 _).mono ?_
 rintro r w1 ⟨rfl, hb⟩
 have hB : Below w.heap.size w w1 := ((Below.refl _ _).alloc (Nat.le_refl _) _).trans (hb.mono (by simp))
 clear hb
 go_wp2
 go_ret
 exact ⟨rfl, hB⟩
theorem second_t (ns e : Int) (h0 : 0 ≤ ns) (h1 : ns < 1000000000) (hs0 : -100000000000000 ≤ e) (hs1 : e ≤ 100000000000000) (w : World) :
  Calls Tryz.prog 213 #[tm ns e (.pointer none)] w fun r w' => r = .returned (.int .i64 (e % 60)) ∧ Below w.heap.size w w' := by
 have hm : (e + 9223371966606163200) % 60 = e % 60 := by omega
 go_enter Tryz.func213, Tryz.ntmps213
 go_wp2_with fail
 refine (absSec_c ns e h0 h1 hs0 hs1 _).mono ?_
 rintro r w1 ⟨rfl, hb⟩
 have hB : Below w.heap.size w w1 := ((Below.refl _ _).alloc (Nat.le_refl _) _).trans (hb.mono (by simp))
 clear hb
 go_wp2
 go_ret
 exact ⟨rfl, hB⟩
theorem clockN_c (x : Int) (h0 : 0 ≤ x) (h1 : x < 18446744073709551616) (w : World) :
  Calls Tryz.prog 233 #[.int .u64 x] w fun r w' => r = .returned (.tuple #[.int .i64 (x % 86400 / 3600), .int .i64 (x % 3600 / 60), .int .i64 (x % 60)]) ∧ w = w' := by
 have e1 : x % 86400 - x % 86400 / 3600 * 3600 = x % 3600 := by omega
 have e2 : x % 3600 - x % 3600 / 60 * 60 = x % 60 := by omega
 go_enter Tryz.func233, Tryz.ntmps233
 go_wp2
 exact bodyPost_ret (v := .tuple #[.int .i64 (x % 86400 / 3600), .int .i64 (x % 3600 / 60), .int .i64 (x % 60)]) (by simp [results, Tryz.f233, go_sem]) rfl ⟨rfl, rfl⟩
theorem clock_t (ns e : Int) (h0 : 0 ≤ ns) (h1 : ns < 1000000000) (hs0 : -100000000000000 ≤ e) (hs1 : e ≤ 100000000000000) (w : World) :
  Calls Tryz.prog 226 #[tm ns e (.pointer none)] w fun r w' => r = .returned (.tuple #[.int .i64 (e % 86400 / 3600), .int .i64 (e % 3600 / 60), .int .i64 (e % 60)]) ∧ Below w.heap.size w w' := by
 have hm : (e + 9223371966606163200) % 60 = e % 60 := by omega
 have hm2 : (e + 9223371966606163200) % 3600 = e % 3600 := by omega
 have hm3 : (e + 9223371966606163200) % 86400 = e % 86400 := by omega
 go_enter Tryz.func226, Tryz.ntmps226
 go_wp2_with fail
 refine (absSec_c ns e h0 h1 hs0 hs1 _).mono ?_
 rintro r w1 ⟨rfl, hb⟩
 have hB : Below w.heap.size w w1 := ((Below.refl _ _).alloc (Nat.le_refl _) _).trans (hb.mono (by simp))
 clear hb
 go_wp2_with fail
 refine (clockN_c _ (by omega) (by omega) _).mono ?_
 rw [hm, hm2, hm3]
 rintro r w' ⟨rfl, rfl⟩
 go_wp2
 exact bodyPost_ret (v := .tuple #[.int .i64 (e % 86400 / 3600), .int .i64 (e % 3600 / 60), .int .i64 (e % 60)]) (by simp [results, Tryz.f226, go_sem]) rfl ⟨rfl, hB⟩
theorem dateN_c (N : Int) (hd : 0 ≤ N ∧ N < 110000000000000) (w : World) :
  Calls Tryz.prog 232 #[.int .u64 N] w fun r w' => r = .returned (.tuple #[.int .i64 (Cal.cY N), .int .i64 (Cal.cM N), .int .i64 (Cal.aD N)]) ∧ w = w' := by
 have hc := cen_in hd
 have hq := cyr_in N
 have hj := jf_in (Cal.ydy (Cal.cdy N))
 have hy := ydy_in N
 have ha := amo_in _ hy
 rw [← cM_eq, ← cY_eq]
 obtain ⟨hc0, hc1⟩ := hc
 obtain ⟨hd0, hd1⟩ := hd
 go_enter Tryz.func232, Tryz.ntmps232
 go_wp2_with fail
 refine (dsplit_c N hd0 (by omega) _).mono ?_
 rintro r w' ⟨rfl, rfl⟩
 go_wp2_with fail
 refine (ysplit_c _ hy.1 (by omega) _).mono ?_
 rintro r w' ⟨rfl, rfl⟩
 go_wp2_with fail
 refine (janFeb_j _ _).mono ?_
 rintro r w' ⟨rfl, rfl⟩
 go_wp2_with fail
 refine (year_c _ _ _ hc0 hc1 hq.1 (by omega) hj.1 hj.2 _).mono ?_
 rintro r w' ⟨rfl, rfl⟩
 go_wp2_with fail
 refine (month_c _ _ ha.1 ha.2 hj.1 hj.2 _).mono ?_
 rintro r w' ⟨rfl, rfl⟩
 go_wp2
 exact bodyPost_ret (v := .tuple #[.int .i64 _, .int .i64 _, .int .i64 (Cal.aD N)]) (by simp [results, Tryz.f232, go_sem]; exact rfl) rfl ⟨rfl, rfl⟩
theorem date_t (ns e : Int) (h0 : 0 ≤ ns) (h1 : ns < 1000000000) (hs0 : -100000000000000 ≤ e) (hs1 : e ≤ 100000000000000) (w : World) :
  Calls Tryz.prog 225 #[tm ns e (.pointer none)] w fun r w' => r = .returned (.tuple #[.int .i64 (Cal.cY (dn e)), .int .i64 (Cal.cM (dn e)), .int .i64 (Cal.aD (dn e))]) ∧ Below w.heap.size w w' := by
 have hd := dn_in hs0 hs1
 have hN : (e + 9223371966606163200) / 86400 = dn e := rfl
 go_enter Tryz.func225, Tryz.ntmps225
 go_wp2_with fail
 refine (absSec_c ns e h0 h1 hs0 hs1 _).mono ?_
 rintro r w1 ⟨rfl, hb⟩
 have hB : Below w.heap.size w w1 := ((Below.refl _ _).alloc (Nat.le_refl _) _).trans (hb.mono (by simp))
 clear hb
 go_wp2_with fail
 refine (days_c _ (by omega) (by omega) _).mono ?_
 rintro r w' ⟨rfl, rfl⟩
 rw [hN]
 clear hN
 go_wp2_with fail
 refine (dateN_c (dn e) hd _).mono ?_
 rintro r w' ⟨rfl, rfl⟩
 go_wp2
 exact bodyPost_ret (v := .tuple #[.int .i64 (Cal.cY (dn e)), .int .i64 (Cal.cM (dn e)), .int .i64 (Cal.aD (dn e))]) (by simp [results, Tryz.f225, go_sem]) rfl ⟨rfl, hB⟩
theorem norm_in (hi lo base : Int) (h0 : 0 ≤ lo) (h1 : lo < base) (hh0 : -4611686018427387904 ≤ hi) (hh1 : hi ≤ 4611686018427387904) (w : World) :
  Calls Tryz.prog 222 #[.int .i64 hi, .int .i64 lo, .int .i64 base] w fun r w' => r = .returned (.tuple #[.int .i64 hi, .int .i64 lo]) ∧ w = w' := by
 go_enter Tryz.func222, Tryz.ntmps222
 go_wp2
 go_ret2
 exact ⟨rfl, rfl⟩
theorem norm_12 (hi : Int) (hh0 : -4611686018427387904 ≤ hi) (hh1 : hi ≤ 4611686018427387904) (w : World) :
  Calls Tryz.prog 222 #[.int .i64 hi, .int .i64 12, .int .i64 12] w fun r w' => r = .returned (.tuple #[.int .i64 (hi + 1), .int .i64 0]) ∧ w = w' := by
 go_enter Tryz.func222, Tryz.ntmps222
 go_wp2
 go_ret2
 exact ⟨rfl, rfl⟩
theorem wrap_u64_add (a b : Int) : IntKind.u64.wrap (IntKind.u64.wrap a + b) = IntKind.u64.wrap (a + b) := by
 have e : ∀ x, IntKind.u64.wrap x = x % 18446744073709551616 := fun x => by simp [IntKind.wrap, IntKind.bits, IntKind.signed]
 rw [e, e, e]; omega
theorem abs_of (Y : Int) (am d : Int) : 146097 * ((Y + 292277022400) / 100) / 4 + (1461 * ((Y + 292277022400) % 100) / 4 + (153 * am - 457) / 5 + d - 1) = Cal.mday Y am d + Cal.off := by
 have hy := Cal.year_parts ((Y + 292277022400) / 100) ((Y + 292277022400) % 100) (by omega) (by omega)
 have e : Y = 100 * ((Y + 292277022400) / 100) + (Y + 292277022400) % 100 - Cal.absYears := by unfold Cal.absYears; omega
 rw [← e] at hy
 unfold Cal.mday Cal.off
 rw [hy.1, hy.2.1, hy.2.2]
 clear hy
 have b : 0 ≤ (Y + 292277022400) % 100 ∧ (Y + 292277022400) % 100 < 100 := by omega
 unfold Cal.absYears at e
 generalize (Y + 292277022400) / 100 = c at *
 generalize (Y + 292277022400) % 100 = cy at *
 generalize (153 * am - 457) / 5 = q at *
 have f1 : 146097 * c / 4 = 36524 * c + c / 4 := by omega
 have f2 : 1461 * cy / 4 = 365 * cy + cy / 4 := by omega
 rw [f1, f2]
 omega
theorem absDays_c (y m d : Int) (hy0 : 0 ≤ y) (hy1 : y ≤ 1000000) (hm0 : 1 ≤ m) (hm1 : m ≤ 12) (hd0 : 1 ≤ d) (hd1 : d ≤ 1000) (w : World) :
  Calls Tryz.prog 223 #[.int .i64 y, .int .i64 m, .int .i64 d] w fun r w' => r = .returned (.int .u64 (Cal.day y m d + Cal.off)) ∧ w = w' := by
 by_cases c : m < 3
 ·have hv := Cal.mday_day (y - 1) (m + 12) d (by omega) (by omega)
  rw [if_pos (by omega), if_pos (by omega), show y - 1 + 1 = y by omega, show m + 12 - 12 = m by omega] at hv
  rw [← hv, ← abs_of]
  clear hv
  have h3 : IntKind.u64.wrap (IntKind.u64.wrap (y - 1) + 292277022400) = y - 1 + 292277022400 := by rw [wrap_u64_add, wraps_u64 _ (by omega) (by omega)]
  have hV0 : 292277022300 ≤ y - 1 + 292277022400 := by omega
  have hV1 : y - 1 + 292277022400 ≤ 292278022400 := by omega
  generalize y - 1 + 292277022400 = V at *
  have e1 : (979 * (m + 12) - 2919) / 32 = (153 * (m + 12) - 457) / 5 := by omega
  go_enter Tryz.func223, Tryz.ntmps223
  go_wp2
  go_ret
  exact ⟨rfl, rfl⟩
 ·have hv := Cal.mday_day y m d (by omega) (by omega)
  rw [if_neg (by omega), if_neg (by omega), show y + 0 = y by omega] at hv
  rw [← hv, ← abs_of]
  clear hv
  have hV0 : 292277022300 ≤ y + 292277022400 := by omega
  have hV1 : y + 292277022400 ≤ 292278022400 := by omega
  have e1 : (979 * m - 2919) / 32 = (153 * m - 457) / 5 := by omega
  go_enter Tryz.func223, Tryz.ntmps223
  go_wp2
  go_ret
  exact ⟨rfl, rfl⟩
theorem lookup_utc (u : Nat) (s : Int) (w : World) (hu : IsUTC w u) :
  Calls Tryz.prog 224 #[.pointer (some ⟨u, 0, none⟩), .int .i64 s] w fun r w' => (∃ x y z b : Value, r = .returned (.tuple #[x, .int .i64 0, y, z, b])) ∧ w = w' := by
 have hz := hu.zone
 go_enter Tryz.func224, Tryz.ntmps224
 go_wp2_with fail
 refine (get_some _ _).mono ?_
 rintro r w' ⟨rfl, rfl⟩
 go_wp2
 exact bodyPost_ret (v := .tuple #[.string ⟨#[85, 84, 67]⟩, .int .i64 0, .int .i64 (-9223372036854775808), .int .i64 9223372036854775807, .bool false]) (by simp [results, Tryz.f224, go_sem]) rfl ⟨⟨_, _, _, _, rfl⟩, rfl⟩
theorem wrap_add (a b : Int) : wrap64 (wrap64 a + b) = wrap64 (a + b) := by unfold wrap64; omega
theorem day_in (y m d : Int) (hy0 : 0 ≤ y) (hy1 : y ≤ 1000000) (hm0 : 1 ≤ m) (hm1 : m ≤ 13) (hd0 : 1 ≤ d) (hd1 : d ≤ 1000) : -720000 ≤ Cal.day y m d ∧ Cal.day y m d ≤ 370000000 := by
 have h : 0 ≤ Cal.before y m ∧ Cal.before y m ≤ 366 := by
  have a := Cal.before_mono y hm0
  have b := Cal.before_mono y hm1
  rw [Cal.before_1] at a
  rw [Cal.before_13] at b
  constructor
  ·omega
  ·split at b <;> omega
 unfold Cal.day Cal.ys
 omega
theorem unix_of (n c : Int) (h0 : -720000 ≤ n) (h1 : n ≤ 370000000) (hc0 : 0 ≤ c) (hc1 : c < 86400) :
  wrap64 (wrap64 (wrap64 (wrap64 (n + Cal.off) * 86400) + c) + -9223372028741760000) = 86400 * n + c := by
 rw [wrap_i64 (n := n + Cal.off) (by unfold Cal.off; omega) (by unfold Cal.off; omega), wrap_add, Int.add_assoc, wrap_add]
 have : (n + Cal.off) * 86400 + (c + -9223372028741760000) = 86400 * n + c := by unfold Cal.off; omega
 rw [this, wrap_i64 (by omega) (by omega)]
theorem mkdate_c (y m d h i s : Int) (hy0 : 0 ≤ y) (hy1 : y ≤ 900000) (hm0 : 1 ≤ m) (hm1 : m ≤ 12) (hd0 : 1 ≤ d) (hd1 : d ≤ 100) (hh0 : 0 ≤ h) (hh1 : h < 24) (hi0 : 0 ≤ i) (hi1 : i < 60) (hs0 : 0 ≤ s) (hs1 : s < 60)
  (u : Nat) (w : World) (hu : IsUTC w u) :
  Calls Tryz.prog 207 #[.int .i64 y, .int .i64 m, .int .i64 d, .int .i64 h, .int .i64 i, .int .i64 s, .int .i64 0, .pointer (some ⟨u, 0, none⟩)] w fun r w' =>
   r = .returned (tm 0 (86400 * Cal.day y m d + (h * 3600 + i * 60 + s) + 62135596800) (.pointer none)) ∧ Below w.heap.size w w' := by
 have hus := hu.size
 have hm : m - 1 + 1 = m := by omega
 go_enter Tryz.func207, Tryz.ntmps207
 go_wp2_with fail
 refine (norm_in y (m - 1) 12 (by omega) (by omega) (by omega) (by omega) _).mono ?_
 rintro r w' ⟨rfl, rfl⟩
 go_wp2_with fail
 refine (norm_in s 0 1000000000 (by omega) (by omega) (by omega) (by omega) _).mono ?_
 rintro r w' ⟨rfl, rfl⟩
 go_wp2_with fail
 refine (norm_in i s 60 (by omega) (by omega) (by omega) (by omega) _).mono ?_
 rintro r w' ⟨rfl, rfl⟩
 go_wp2_with fail
 refine (norm_in h i 60 (by omega) (by omega) (by omega) (by omega) _).mono ?_
 rintro r w' ⟨rfl, rfl⟩
 go_wp2_with fail
 refine (norm_in d h 24 (by omega) (by omega) (by omega) (by omega) _).mono ?_
 rintro r w' ⟨rfl, rfl⟩
 go_wp2_with fail
 refine (absDays_c y m d hy0 (by omega) hm0 hm1 hd0 (by omega) _).mono ?_
 rintro r w' ⟨rfl, rfl⟩
 go_wp2_with fail
 have hb := day_in y m d hy0 (by omega) hm0 (by omega) hd0 (by omega)
 rw [unix_of _ _ hb.1 hb.2 (by omega) (by omega)]
 have hS : -70000000000 ≤ 86400 * Cal.day y m d + (h * 3600 + i * 60 + s) ∧ 86400 * Cal.day y m d + (h * 3600 + i * 60 + s) ≤ 32000000000000 := by omega
 refine (lookup_utc u _ _ (hu.below ((Below.refl _ _).alloc (Nat.le_refl _) _))).mono ?_
 rintro r w' ⟨⟨x1, x2, x3, x4, rfl⟩, rfl⟩
 go_wp2_with fail
 refine (unixTime_c _ 0 (by decide) (by decide) (by omega) (by omega) _).mono ?_
 rintro r w1 ⟨rfl, hb1⟩
 obtain ⟨hc, hf⟩ := bcell hb1
 have hz : w.heap.size < w1.heap.size := by have := hb1.size; simp at this; omega
 have hB : Below w.heap.size w w1 := ((Below.refl _ _).alloc (Nat.le_refl _) _).trans (hb1.mono (by simp))
 go_wp2_with fail
 refine (setLoc_utc _ _ 0 (by decide) (by decide) u _ (by simp [go_sem]) (.pointer none) (by simp [go_sem]) (by simp [go_sem]) ((hu.below hB).below ((Below.refl _ _).alloc (Nat.le_refl _) _))).mono ?_
 rintro r w' ⟨rfl, rfl⟩
 go_wp2
 exact bodyPost_ret (v := tm 0 (86400 * Cal.day y m d + (h * 3600 + i * 60 + s) + 62135596800) (.pointer none)) (by simp [results, Tryz.f207, go_sem, hc, hz]) rfl
  ⟨rfl, by repeat (first | exact hB | refine Below.setCell ?_ (by simp; try omega) _ | refine Below.alloc ?_ (by simp; try omega) _)⟩
end Go.Proofs.YtcjdideliifkhaaGreatDoor
