import Derived.Test.YtcjdideliifkhaaGreatDoorA14
set_option maxRecDepth 100000
set_option maxHeartbeats 16000000
namespace Go.Proofs.YtcjdideliifkhaaGreatDoor
open Go.RowKit
set_option linter.unusedVariables false
set_option linter.unusedSimpArgs false
theorem wraps_u32 (n : Int) (h₀ : 0 ≤ n) (h₁ : n < 2 ^ 32) : IntKind.u32.wrap n = n := by rw [IntKind.wrap_u32]; omega
theorem or_three {x : Int} (h0 : 0 ≤ x) (h : x < 146097) : bits .or .u32 x 3 = 4 * (x / 4) + 3 := by
 obtain ⟨a, rfl⟩ := Int.eq_ofNat_of_zero_le h0
 rw [show (3 : Int) = ((3 : Nat) : Int) from rfl, (bits_nat .u32 32 (by decide) wraps_u32 a 3 (by omega) (by decide)).2]
 have h1 : a = 2 ^ 2 * (a / 4) + a % 4 := by omega
 have h2 : a ||| 3 = 4 * (a / 4) + 3 := by
  have e1 : 2 ^ 2 * (a / 4) + a % 4 = 2 ^ 2 * (a / 4) ||| a % 4 := Nat.two_pow_add_eq_or_of_lt (by omega) _
  have e2 : 2 ^ 2 * (a / 4) + 3 = 2 ^ 2 * (a / 4) ||| 3 := Nat.two_pow_add_eq_or_of_lt (by decide) _
  have e3 : ∀ b, b < 4 → b ||| 3 = 3 := by decide
  rw [show a ||| 3 = (2 ^ 2 * (a / 4) ||| a % 4) ||| 3 by rw [← e1, ← h1], Nat.or_assoc, e3 _ (by omega), ← e2]
 rw [h2]; omega
theorem neri {c : Int} (h0 : 0 ≤ c) (h : c ≤ 36524) : 2939745 * (4 * c + 3) / 4294967296 = Cal.cyr c ∧ 2939745 * (4 * c + 3) % 4294967296 / 2939745 / 4 = Cal.ydy c := by
 unfold Cal.cyr Cal.ydy
 have e1 : 4 * c + 3 = 1461 * ((4 * c + 3) / 1461) + (4 * c + 3) % 1461 := by omega
 have e2 : 0 ≤ (4 * c + 3) / 1461 ∧ (4 * c + 3) / 1461 ≤ 100 := by omega
 have e3 : 0 ≤ (4 * c + 3) % 1461 ∧ (4 * c + 3) % 1461 < 1461 := by omega
 generalize (4 * c + 3) / 1461 = q at *
 generalize (4 * c + 3) % 1461 = r at *
 have e4 : 2939745 * (4 * c + 3) = 4294967296 * q + (149 * q + 2939745 * r) := by omega
 have e5 : 2939745 * (4 * c + 3) / 4294967296 = q := by omega
 have e6 : 2939745 * (4 * c + 3) % 4294967296 = 149 * q + 2939745 * r := by omega
 have e7 : (149 * q + 2939745 * r) / 2939745 = r := by omega
 exact ⟨e5, by rw [e6, e7]⟩
theorem neri2 (n : Nat) (h : n < 367) : (2141 * (n : Int) + 197913) / 65536 = (5 * (n : Int) + 461) / 153 ∧ (2141 * (n : Int) + 197913) % 65536 / 2141 = (5 * (n : Int) + 461) % 153 / 5 := by
 have : ∀ n : Nat, n < 367 → (2141 * (n : Int) + 197913) / 65536 = (5 * (n : Int) + 461) / 153 ∧ (2141 * (n : Int) + 197913) % 65536 / 2141 = (5 * (n : Int) + 461) % 153 / 5 := by decide +kernel
 exact this n h
theorem mul32_c (x y : Int) (hx0 : 0 ≤ x) (hx : x < 4294967296) (hy0 : 0 ≤ y) (hy : y < 4294967296) (hxy : x * y < 18446744073709551616) (hxy0 : 0 ≤ x * y) (w : World) :
  Calls Tryz.prog 230 #[.int .u32 x, .int .u32 y] w fun r w' => r = .returned (.tuple #[.int .u32 (x * y / 4294967296), .int .u32 (x * y % 4294967296)]) ∧ w = w' := by
 go_enter Tryz.func230, Tryz.ntmps230
 go_wp2
 go_ret2
 exact ⟨rfl, rfl⟩
theorem days_c (x : Int) (hx0 : 0 ≤ x) (hx : x < 18446744073709551616) (w : World) :
  Calls Tryz.prog 215 #[.int .u64 x] w fun r w' => r = .returned (.int .u64 (x / 86400)) ∧ w = w' := by
 go_enter Tryz.func215, Tryz.ntmps215
 go_wp2
 go_ret
 exact ⟨rfl, rfl⟩
theorem dsplit_c (N : Int) (h0 : 0 ≤ N) (h1 : N < 213600000000000) (w : World) :
  Calls Tryz.prog 216 #[.int .u64 N] w fun r w' => r = .returned (.tuple #[.int .u64 (Cal.cen N), .int .i64 (Cal.cyr (Cal.cdy N)), .int .i64 (Cal.ydy (Cal.cdy N))]) ∧ w = w' := by
 have hp := Cal.parts N
 have hc : (4 * N + 3) / 146097 = Cal.cen N := rfl
 have hor : bits .or .u32 ((4 * N + 3) % 146097) 3 = 4 * Cal.cdy N + 3 := or_three (by omega) (by omega)
 have hn := neri hp.2.1 hp.2.2
 have q0 := hp.2.1
 have q1 := hp.2.2
 clear hp
 generalize hcc : Cal.cdy N = c at *
 generalize hxx : (4 * N + 3) % 146097 = x at *
 have hx0 : 0 ≤ x := by omega
 have hx1 : x < 146097 := by omega
 obtain ⟨n1, n2⟩ := hn
 go_enter Tryz.func216, Tryz.ntmps216
 go_wp2_with fail
 refine (mul32_c 2939745 (4 * c + 3) (by decide) (by decide) (by omega) (by omega) (by omega) (by omega) _).mono ?_
 rintro r w' ⟨rfl, rfl⟩
 go_wp2
 exact bodyPost_ret (v := .tuple #[.int .u64 (Cal.cen N), .int .i64 (Cal.cyr c), .int .i64 (Cal.ydy c)]) (by simp [results, Tryz.f216, go_sem]) rfl ⟨rfl, rfl⟩
theorem ysplit_c (y : Int) (h0 : 0 ≤ y) (h1 : y ≤ 366) (w : World) :
  Calls Tryz.prog 217 #[.int .i64 y] w fun r w' => r = .returned (.tuple #[.int .i64 (Cal.amo y), .int .i64 (Cal.amd y)]) ∧ w = w' := by
 obtain ⟨n, rfl⟩ := Int.eq_ofNat_of_zero_le h0
 have hn := neri2 n (by omega)
 have e1 : (2141 * (n : Int) + 197913) / 65536 = Cal.amo n := hn.1
 have e2 : (2141 * (n : Int) + 197913) % 65536 / 2141 = Cal.amd n - 1 := by
  rw [hn.2]; unfold Cal.amd; omega
 have e3 : bits .and .u32 (2141 * (n : Int) + 197913) 65535 = (2141 * (n : Int) + 197913) % 65536 := bits_mask .u32 32 (by decide) wraps_u32 16 (by decide) _ (by omega) (by omega)
 have e4 : 1 + (Cal.amd (n : Int) - 1) = Cal.amd (n : Int) := by omega
 have b1 : 1 ≤ Cal.amd (n : Int) ∧ Cal.amd (n : Int) ≤ 31 := by unfold Cal.amd; omega
 have b2 : 0 ≤ Cal.amo (n : Int) ∧ Cal.amo (n : Int) ≤ 20 := by unfold Cal.amo; omega
 clear hn
 obtain ⟨b3, b4⟩ := b1
 obtain ⟨b5, b6⟩ := b2
 go_enter Tryz.func217, Tryz.ntmps217
 go_wp2
 go_ret2
 exact ⟨rfl, rfl⟩
theorem janFeb_c (y : Int) (w : World) :
  Calls Tryz.prog 219 #[.int .i64 y] w fun r w' => r = .returned (.int .i64 (if 306 ≤ y then 1 else 0)) ∧ w = w' := by
 by_cases c : 306 ≤ y
 ·rw [if_pos c]
  go_enter Tryz.func219, Tryz.ntmps219
  go_wp2
  go_ret
  exact ⟨rfl, rfl⟩
 ·rw [if_neg c]
  go_enter Tryz.func219, Tryz.ntmps219
  go_wp2
  go_ret
  exact ⟨rfl, rfl⟩
theorem month_c (m j : Int) (h0 : 0 ≤ m) (h1 : m ≤ 20) (j0 : 0 ≤ j) (j1 : j ≤ 1) (w : World) :
  Calls Tryz.prog 221 #[.int .i64 m, .int .i64 j] w fun r w' => r = .returned (.int .i64 (m - j * 12)) ∧ w = w' := by
 go_enter Tryz.func221, Tryz.ntmps221
 go_wp2
 go_ret
 exact ⟨rfl, rfl⟩
theorem wrap_i64_u64 {x : Int} (h0 : -9223372036854775808 ≤ x) (h1 : x ≤ 9223372036854775807) : wrap64 (IntKind.u64.wrap x) = x := by
 have : IntKind.u64.wrap x = x % 18446744073709551616 := by simp [IntKind.wrap, IntKind.bits, IntKind.signed]
 rw [this]; unfold wrap64; omega
theorem year_c (c y j : Int) (h0 : 0 ≤ c) (h1 : c < 5845540448) (y0 : 0 ≤ y) (y1 : y ≤ 100) (j0 : 0 ≤ j) (j1 : j ≤ 1) (w : World) :
  Calls Tryz.prog 220 #[.int .u64 c, .int .i64 y, .int .i64 j] w fun r w' => r = .returned (.int .i64 (100 * c - 292277022400 + y + j)) ∧ w = w' := by
 go_enter Tryz.func220, Tryz.ntmps220
 go_wp2
 go_ret
 refine ⟨?_, rfl⟩
 have e1 : wrap64 (wrap64 (wrap64 (IntKind.u64.wrap (c * 100 - 292277022400)) + y) + j) = 100 * c - 292277022400 + y + j := by
  rw [wrap_i64_u64 (by omega) (by omega), wrap_i64 (n := c * 100 - 292277022400 + y) (by omega) (by omega), wrap_i64 (by omega) (by omega)]; omega
 rw [← e1]
 rfl
def dn (e : Int) : Int := (e + 9223371966606163200) / 86400
theorem dn_eq (s : Int) : dn (s + 62135596800) = s / 86400 + Cal.off := by unfold dn Cal.off; omega
theorem dn_in {e : Int} (hs0 : -100000000000000 ≤ e) (hs1 : e ≤ 100000000000000) : 0 ≤ dn e ∧ dn e < 110000000000000 := by unfold dn; omega
theorem cen_in {N : Int} (h : 0 ≤ N ∧ N < 110000000000000) : 0 ≤ Cal.cen N ∧ Cal.cen N < 5845540448 := by unfold Cal.cen; omega
def jf (y : Int) : Int := if 306 ≤ y then 1 else 0
theorem jf_in (y : Int) : 0 ≤ jf y ∧ jf y ≤ 1 := by unfold jf; split <;> omega
theorem jf_amo (y : Int) : jf y = if Cal.amo y > 12 then 1 else 0 := by
 unfold jf Cal.amo
 by_cases c : 306 ≤ y
 ·rw [if_pos c, if_pos (by omega)]
 ·rw [if_neg c, if_neg (by omega)]
theorem cY_eq (N : Int) : 100 * Cal.cen N - 292277022400 + Cal.cyr (Cal.cdy N) + jf (Cal.ydy (Cal.cdy N)) = Cal.cY N := by
 unfold Cal.cY Cal.aY Cal.aM Cal.absYears; rw [jf_amo]; omega
theorem cM_eq (N : Int) : Cal.amo (Cal.ydy (Cal.cdy N)) - jf (Cal.ydy (Cal.cdy N)) * 12 = Cal.cM N := by
 unfold Cal.cM Cal.aM; rw [jf_amo]; split <;> omega
theorem amo_in (y : Int) (h : 0 ≤ y ∧ y ≤ 365) : 0 ≤ Cal.amo y ∧ Cal.amo y ≤ 20 := by unfold Cal.amo; omega
theorem cyr_in (N : Int) : 0 ≤ Cal.cyr (Cal.cdy N) ∧ Cal.cyr (Cal.cdy N) ≤ 99 := by
 have hp := Cal.parts N
 have hp2 := Cal.parts2 (Cal.cdy N) hp.2.1 hp.2.2
 exact ⟨hp2.2.1, hp2.2.2.1⟩
theorem ydy_in (N : Int) : 0 ≤ Cal.ydy (Cal.cdy N) ∧ Cal.ydy (Cal.cdy N) ≤ 365 := by
 have hp := Cal.parts N
 have hp2 := Cal.parts2 (Cal.cdy N) hp.2.1 hp.2.2
 exact ⟨hp2.2.2.2.1, hp2.2.2.2.2⟩
theorem janFeb_j (y : Int) (w : World) :
  Calls Tryz.prog 219 #[.int .i64 y] w fun r w' => r = .returned (.int .i64 (jf y)) ∧ w = w' := janFeb_c y w
theorem year_t (ns e : Int) (h0 : 0 ≤ ns) (h1 : ns < 1000000000) (hs0 : -100000000000000 ≤ e) (hs1 : e ≤ 100000000000000) (w : World) :
  Calls Tryz.prog 205 #[tm ns e (.pointer none)] w fun r w' => r = .returned (.int .i64 (Cal.cY (dn e))) ∧ Below w.heap.size w w' := by
 have hd := dn_in hs0 hs1
 have hN : (e + 9223371966606163200) / 86400 = dn e := rfl
 have hc := cen_in hd
 have hq := cyr_in (dn e)
 have hj := jf_in (Cal.ydy (Cal.cdy (dn e)))
 rw [← cY_eq]
 obtain ⟨hc0, hc1⟩ := hc
 go_enter Tryz.func205, Tryz.ntmps205
 go_wp2_with fail
 refine (absSec_c ns e h0 h1 hs0 hs1 _).mono ?_
 rintro r w1 ⟨rfl, hb⟩
 have hB : Below w.heap.size w w1 := ((Below.refl _ _).alloc (Nat.le_refl _) _).trans (hb.mono (by simp))
 clear hb
 go_wp2_with fail
 refine (days_c _ (by omega) (by omega) _).mono ?_
 rintro r w' ⟨rfl, rfl⟩
 rw [hN]
 clear hN
 go_wp2_with fail
 refine (dsplit_c (dn e) hd.1 (by omega) _).mono ?_
 rintro r w' ⟨rfl, rfl⟩
 go_wp2_with fail
 refine (janFeb_j _ _).mono ?_
 rintro r w' ⟨rfl, rfl⟩
 go_wp2_with fail
 refine (year_c _ _ _ hc0 hc1 hq.1 (by omega) hj.1 hj.2 _).mono ?_
 rintro r w' ⟨rfl, rfl⟩
 go_wp2
 go_ret
 exact ⟨rfl, hB⟩
theorem month_t (ns e : Int) (h0 : 0 ≤ ns) (h1 : ns < 1000000000) (hs0 : -100000000000000 ≤ e) (hs1 : e ≤ 100000000000000) (w : World) :
  Calls Tryz.prog 206 #[tm ns e (.pointer none)] w fun r w' => r = .returned (.int .i64 (Cal.cM (dn e))) ∧ Below w.heap.size w w' := by
 have hd := dn_in hs0 hs1
 have hN : (e + 9223371966606163200) / 86400 = dn e := rfl
 have hj := jf_in (Cal.ydy (Cal.cdy (dn e)))
 have hy := ydy_in (dn e)
 have ha := amo_in _ hy
 rw [← cM_eq]
 go_enter Tryz.func206, Tryz.ntmps206
 go_wp2_with fail
 refine (absSec_c ns e h0 h1 hs0 hs1 _).mono ?_
 rintro r w1 ⟨rfl, hb⟩
 have hB : Below w.heap.size w w1 := ((Below.refl _ _).alloc (Nat.le_refl _) _).trans (hb.mono (by simp))
 clear hb
 go_wp2_with fail
 refine (days_c _ (by omega) (by omega) _).mono ?_
 rintro r w' ⟨rfl, rfl⟩
 rw [hN]
 clear hN
 go_wp2_with fail
 refine (dsplit_c (dn e) hd.1 (by omega) _).mono ?_
 rintro r w' ⟨rfl, rfl⟩
 go_wp2_with fail
 refine (ysplit_c _ hy.1 (by omega) _).mono ?_
 rintro r w' ⟨rfl, rfl⟩
 go_wp2_with fail
 refine (janFeb_j _ _).mono ?_
 rintro r w' ⟨rfl, rfl⟩
 go_wp2_with fail
 refine (month_c _ _ ha.1 ha.2 hj.1 hj.2 _).mono ?_
 rintro r w' ⟨rfl, rfl⟩
 go_wp2
 go_ret
 exact ⟨rfl, hB⟩
theorem day_t (ns e : Int) (h0 : 0 ≤ ns) (h1 : ns < 1000000000) (hs0 : -100000000000000 ≤ e) (hs1 : e ≤ 100000000000000) (w : World) :
  Calls Tryz.prog 201 #[tm ns e (.pointer none)] w fun r w' => r = .returned (.int .i64 (Cal.aD (dn e))) ∧ Below w.heap.size w w' := by
 have hd := dn_in hs0 hs1
 have hN : (e + 9223371966606163200) / 86400 = dn e := rfl
 have hy := ydy_in (dn e)
 go_enter Tryz.func201, Tryz.ntmps201
 go_wp2_with fail
 refine (absSec_c ns e h0 h1 hs0 hs1 _).mono ?_
 rintro r w1 ⟨rfl, hb⟩
 have hB : Below w.heap.size w w1 := ((Below.refl _ _).alloc (Nat.le_refl _) _).trans (hb.mono (by simp))
 clear hb
 go_wp2_with fail
 refine (days_c _ (by omega) (by omega) _).mono ?_
 rintro r w' ⟨rfl, rfl⟩
 rw [hN]
 clear hN
 go_wp2_with fail
 refine (dsplit_c (dn e) hd.1 (by omega) _).mono ?_
 rintro r w' ⟨rfl, rfl⟩
 go_wp2_with fail
 refine (ysplit_c _ hy.1 (by omega) _).mono ?_
 rintro r w' ⟨rfl, rfl⟩
 go_wp2
 go_ret
 exact ⟨rfl, hB⟩
theorem weekdayN_c (N : Int) (h0 : 0 ≤ N) (h1 : N < 213600000000000) (w : World) :
  Calls Tryz.prog 234 #[.int .u64 N] w fun r w' => r = .returned (.int .i64 ((N + 3) % 7)) ∧ w = w' := by
 go_enter Tryz.func234, Tryz.ntmps234
 go_wp2
 go_ret
 exact ⟨rfl, rfl⟩
theorem weekday_t (ns e : Int) (h0 : 0 ≤ ns) (h1 : ns < 1000000000) (hs0 : -100000000000000 ≤ e) (hs1 : e ≤ 100000000000000) (w : World) :
  Calls Tryz.prog 227 #[tm ns e (.pointer none)] w fun r w' => r = .returned (.int .i64 ((dn e + 3) % 7)) ∧ Below w.heap.size w w' := by
 have hd := dn_in hs0 hs1
 have hN : (e + 9223371966606163200) / 86400 = dn e := rfl
 go_enter Tryz.func227, Tryz.ntmps227
 go_wp2_with fail
 refine (absSec_c ns e h0 h1 hs0 hs1 _).mono ?_
 rintro r w1 ⟨rfl, hb⟩
 have hB : Below w.heap.size w w1 := ((Below.refl _ _).alloc (Nat.le_refl _) _).trans (hb.mono (by simp))
 clear hb
 go_wp2_with fail
 refine (days_c _ (by omega) (by omega) _).mono ?_
 rintro r w' ⟨rfl, rfl⟩
 rw [hN]
 clear hN
 go_wp2_with fail
 refine (weekdayN_c (dn e) hd.1 (by omega) _).mono ?_
 rintro r w' ⟨rfl, rfl⟩
 go_wp2
 go_ret
 exact ⟨rfl, hB⟩
theorem hour_t (ns e : Int) (h0 : 0 ≤ ns) (h1 : ns < 1000000000) (hs0 : -100000000000000 ≤ e) (hs1 : e ≤ 100000000000000) (w : World) :
  Calls Tryz.prog 210 #[tm ns e (.pointer none)] w fun r w' => r = .returned (.int .i64 (e % 86400 / 3600)) ∧ Below w.heap.size w w' := by
 have hm : (e + 9223371966606163200) % 86400 = e % 86400 := by omega
 go_enter Tryz.func210, Tryz.ntmps210
 go_wp2_with fail
 refine (absSec_c ns e h0 h1 hs0 hs1 _).mono ?_
 rintro r w1 ⟨rfl, hb⟩
 have hB : Below w.heap.size w w1 := ((Below.refl _ _).alloc (Nat.le_refl _) _).trans (hb.mono (by simp))
 clear hb
 go_wp2
 go_ret
 exact ⟨rfl, hB⟩
theorem minute_t (ns e : Int) (h0 : 0 ≤ ns) (h1 : ns < 1000000000) (hs0 : -100000000000000 ≤ e) (hs1 : e ≤ 100000000000000) (w : World) :
  Calls Tryz.prog 211 #[tm ns e (.pointer none)] w fun r w' => r = .returned (.int .i64 (e % 3600 / 60)) ∧ Below w.heap.size w w' := by
 have hm : (e + 9223371966606163200) % 3600 = e % 3600 := by omega
 go_enter Tryz.func211, Tryz.ntmps211
 go_wp2_with fail
 refine (absSec_c ns e h0 h1 hs0 hs1 _).mono ?_
 rintro r w1 ⟨rfl, hb⟩
 have hB : Below w.heap.size w w1 := ((Below.refl _ _).alloc (Nat.le_refl _) _).trans (hb.mono (by simp))
 clear hb
 go_wp2
 go_ret
 exact ⟨rfl, hB⟩
theorem second_t (ns e : Int) (h0 : 0 ≤ ns) (h1 : ns < 1000000000) (hs0 : -100000000000000 ≤ e) (hs1 : e ≤ 100000000000000) (w : World) :
  Calls Tryz.prog 213 #[tm ns e (.pointer none)] w fun r w' => r = .returned (.int .i64 (e % 60)) ∧ Below w.heap.size w w' := by
 have hm : (e + 9223371966606163200) % 60 = e % 60 := by omega
 go_enter Tryz.func213, Tryz.ntmps213
 go_wp2_with fail
 refine (absSec_c ns e h0 h1 hs0 hs1 _).mono ?_
 rintro r w1 ⟨rfl, hb⟩
 have hB : Below w.heap.size w w1 := ((Below.refl _ _).alloc (Nat.le_refl _) _).trans (hb.mono (by simp))
 clear hb
 go_wp2
 go_ret
 exact ⟨rfl, hB⟩
theorem clockN_c (x : Int) (h0 : 0 ≤ x) (h1 : x < 18446744073709551616) (w : World) :
  Calls Tryz.prog 233 #[.int .u64 x] w fun r w' => r = .returned (.tuple #[.int .i64 (x % 86400 / 3600), .int .i64 (x % 3600 / 60), .int .i64 (x % 60)]) ∧ w = w' := by
 have e1 : x % 86400 - x % 86400 / 3600 * 3600 = x % 3600 := by omega
 have e2 : x % 3600 - x % 3600 / 60 * 60 = x % 60 := by omega
 go_enter Tryz.func233, Tryz.ntmps233
 go_wp2
 exact bodyPost_ret (v := .tuple #[.int .i64 (x % 86400 / 3600), .int .i64 (x % 3600 / 60), .int .i64 (x % 60)]) (by simp [results, Tryz.f233, go_sem]) rfl ⟨rfl, rfl⟩
theorem clock_t (ns e : Int) (h0 : 0 ≤ ns) (h1 : ns < 1000000000) (hs0 : -100000000000000 ≤ e) (hs1 : e ≤ 100000000000000) (w : World) :
  Calls Tryz.prog 226 #[tm ns e (.pointer none)] w fun r w' => r = .returned (.tuple #[.int .i64 (e % 86400 / 3600), .int .i64 (e % 3600 / 60), .int .i64 (e % 60)]) ∧ Below w.heap.size w w' := by
 have hm : (e + 9223371966606163200) % 60 = e % 60 := by omega
 have hm2 : (e + 9223371966606163200) % 3600 = e % 3600 := by omega
 have hm3 : (e + 9223371966606163200) % 86400 = e % 86400 := by omega
 go_enter Tryz.func226, Tryz.ntmps226
 go_wp2_with fail
 refine (absSec_c ns e h0 h1 hs0 hs1 _).mono ?_
 rintro r w1 ⟨rfl, hb⟩
 have hB : Below w.heap.size w w1 := ((Below.refl _ _).alloc (Nat.le_refl _) _).trans (hb.mono (by simp))
 clear hb
 go_wp2_with fail
 refine (clockN_c _ (by omega) (by omega) _).mono ?_
 rw [hm, hm2, hm3]
 rintro r w' ⟨rfl, rfl⟩
 go_wp2
 exact bodyPost_ret (v := .tuple #[.int .i64 (e % 86400 / 3600), .int .i64 (e % 3600 / 60), .int .i64 (e % 60)]) (by simp [results, Tryz.f226, go_sem]) rfl ⟨rfl, hB⟩
theorem dateN_c (N : Int) (hd : 0 ≤ N ∧ N < 110000000000000) (w : World) :
  Calls Tryz.prog 232 #[.int .u64 N] w fun r w' => r = .returned (.tuple #[.int .i64 (Cal.cY N), .int .i64 (Cal.cM N), .int .i64 (Cal.aD N)]) ∧ w = w' := by
 have hc := cen_in hd
 have hq := cyr_in N
 have hj := jf_in (Cal.ydy (Cal.cdy N))
 have hy := ydy_in N
 have ha := amo_in _ hy
 rw [← cM_eq, ← cY_eq]
 obtain ⟨hc0, hc1⟩ := hc
 obtain ⟨hd0, hd1⟩ := hd
 go_enter Tryz.func232, Tryz.ntmps232
 go_wp2_with fail
 refine (dsplit_c N hd0 (by omega) _).mono ?_
 rintro r w' ⟨rfl, rfl⟩
 go_wp2_with fail
 refine (ysplit_c _ hy.1 (by omega) _).mono ?_
 rintro r w' ⟨rfl, rfl⟩
 go_wp2_with fail
 refine (janFeb_j _ _).mono ?_
 rintro r w' ⟨rfl, rfl⟩
 go_wp2_with fail
 refine (year_c _ _ _ hc0 hc1 hq.1 (by omega) hj.1 hj.2 _).mono ?_
 rintro r w' ⟨rfl, rfl⟩
 go_wp2_with fail
 refine (month_c _ _ ha.1 ha.2 hj.1 hj.2 _).mono ?_
 rintro r w' ⟨rfl, rfl⟩
 go_wp2
 exact bodyPost_ret (v := .tuple #[.int .i64 _, .int .i64 _, .int .i64 (Cal.aD N)]) (by simp [results, Tryz.f232, go_sem]; exact rfl) rfl ⟨rfl, rfl⟩
theorem date_t (ns e : Int) (h0 : 0 ≤ ns) (h1 : ns < 1000000000) (hs0 : -100000000000000 ≤ e) (hs1 : e ≤ 100000000000000) (w : World) :
  Calls Tryz.prog 225 #[tm ns e (.pointer none)] w fun r w' => r = .returned (.tuple #[.int .i64 (Cal.cY (dn e)), .int .i64 (Cal.cM (dn e)), .int .i64 (Cal.aD (dn e))]) ∧ Below w.heap.size w w' := by
 have hd := dn_in hs0 hs1
 have hN : (e + 9223371966606163200) / 86400 = dn e := rfl
 go_enter Tryz.func225, Tryz.ntmps225
 go_wp2_with fail
 refine (absSec_c ns e h0 h1 hs0 hs1 _).mono ?_
 rintro r w1 ⟨rfl, hb⟩
 have hB : Below w.heap.size w w1 := ((Below.refl _ _).alloc (Nat.le_refl _) _).trans (hb.mono (by simp))
 clear hb
 go_wp2_with fail
 refine (days_c _ (by omega) (by omega) _).mono ?_
 rintro r w' ⟨rfl, rfl⟩
 rw [hN]
 clear hN
 go_wp2_with fail
 refine (dateN_c (dn e) hd _).mono ?_
 rintro r w' ⟨rfl, rfl⟩
 go_wp2
 exact bodyPost_ret (v := .tuple #[.int .i64 (Cal.cY (dn e)), .int .i64 (Cal.cM (dn e)), .int .i64 (Cal.aD (dn e))]) (by simp [results, Tryz.f225, go_sem]) rfl ⟨rfl, hB⟩
theorem norm_in (hi lo base : Int) (h0 : 0 ≤ lo) (h1 : lo < base) (hh0 : -4611686018427387904 ≤ hi) (hh1 : hi ≤ 4611686018427387904) (w : World) :
  Calls Tryz.prog 222 #[.int .i64 hi, .int .i64 lo, .int .i64 base] w fun r w' => r = .returned (.tuple #[.int .i64 hi, .int .i64 lo]) ∧ w = w' := by
 go_enter Tryz.func222, Tryz.ntmps222
 go_wp2
 go_ret2
 exact ⟨rfl, rfl⟩
theorem norm_12 (hi : Int) (hh0 : -4611686018427387904 ≤ hi) (hh1 : hi ≤ 4611686018427387904) (w : World) :
  Calls Tryz.prog 222 #[.int .i64 hi, .int .i64 12, .int .i64 12] w fun r w' => r = .returned (.tuple #[.int .i64 (hi + 1), .int .i64 0]) ∧ w = w' := by
 go_enter Tryz.func222, Tryz.ntmps222
 go_wp2
 go_ret2
 exact ⟨rfl, rfl⟩
theorem wrap_u64_add (a b : Int) : IntKind.u64.wrap (IntKind.u64.wrap a + b) = IntKind.u64.wrap (a + b) := by
 have e : ∀ x, IntKind.u64.wrap x = x % 18446744073709551616 := fun x => by simp [IntKind.wrap, IntKind.bits, IntKind.signed]
 rw [e, e, e]; omega
theorem abs_of (Y : Int) (am d : Int) : 146097 * ((Y + 292277022400) / 100) / 4 + (1461 * ((Y + 292277022400) % 100) / 4 + (153 * am - 457) / 5 + d - 1) = Cal.mday Y am d + Cal.off := by
 have hy := Cal.year_parts ((Y + 292277022400) / 100) ((Y + 292277022400) % 100) (by omega) (by omega)
 have e : Y = 100 * ((Y + 292277022400) / 100) + (Y + 292277022400) % 100 - Cal.absYears := by unfold Cal.absYears; omega
 rw [← e] at hy
 unfold Cal.mday Cal.off
 rw [hy.1, hy.2.1, hy.2.2]
 clear hy
 have b : 0 ≤ (Y + 292277022400) % 100 ∧ (Y + 292277022400) % 100 < 100 := by omega
 unfold Cal.absYears at e
 generalize (Y + 292277022400) / 100 = c at *
 generalize (Y + 292277022400) % 100 = cy at *
 generalize (153 * am - 457) / 5 = q at *
 have f1 : 146097 * c / 4 = 36524 * c + c / 4 := by omega
 have f2 : 1461 * cy / 4 = 365 * cy + cy / 4 := by omega
 rw [f1, f2]
 omega
theorem absDays_c (y m d : Int) (hy0 : 0 ≤ y) (hy1 : y ≤ 1000000) (hm0 : 1 ≤ m) (hm1 : m ≤ 12) (hd0 : 1 ≤ d) (hd1 : d ≤ 1000) (w : World) :
  Calls Tryz.prog 223 #[.int .i64 y, .int .i64 m, .int .i64 d] w fun r w' => r = .returned (.int .u64 (Cal.day y m d + Cal.off)) ∧ w = w' := by
 by_cases c : m < 3
 ·have hv := Cal.mday_day (y - 1) (m + 12) d (by omega) (by omega)
  rw [if_pos (by omega), if_pos (by omega), show y - 1 + 1 = y by omega, show m + 12 - 12 = m by omega] at hv
  rw [← hv, ← abs_of]
  clear hv
  have h3 : IntKind.u64.wrap (IntKind.u64.wrap (y - 1) + 292277022400) = y - 1 + 292277022400 := by rw [wrap_u64_add, wraps_u64 _ (by omega) (by omega)]
  have hV0 : 292277022300 ≤ y - 1 + 292277022400 := by omega
  have hV1 : y - 1 + 292277022400 ≤ 292278022400 := by omega
  generalize y - 1 + 292277022400 = V at *
  have e1 : (979 * (m + 12) - 2919) / 32 = (153 * (m + 12) - 457) / 5 := by omega
  go_enter Tryz.func223, Tryz.ntmps223
  go_wp2
  go_ret
  exact ⟨rfl, rfl⟩
 ·have hv := Cal.mday_day y m d (by omega) (by omega)
  rw [if_neg (by omega), if_neg (by omega), show y + 0 = y by omega] at hv
  rw [← hv, ← abs_of]
  clear hv
  have hV0 : 292277022300 ≤ y + 292277022400 := by omega
  have hV1 : y + 292277022400 ≤ 292278022400 := by omega
  have e1 : (979 * m - 2919) / 32 = (153 * m - 457) / 5 := by omega
  go_enter Tryz.func223, Tryz.ntmps223
  go_wp2
  go_ret
  exact ⟨rfl, rfl⟩
theorem lookup_utc (u : Nat) (s : Int) (w : World) (hu : IsUTC w u) :
  Calls Tryz.prog 224 #[.pointer (some ⟨u, 0, none⟩), .int .i64 s] w fun r w' => (∃ x y z b : Value, r = .returned (.tuple #[x, .int .i64 0, y, z, b])) ∧ w = w' := by
 have hz := hu.zone
 go_enter Tryz.func224, Tryz.ntmps224
 go_wp2_with fail
 refine (get_some _ _).mono ?_
 rintro r w' ⟨rfl, rfl⟩
 go_wp2
 exact bodyPost_ret (v := .tuple #[.string ⟨#[85, 84, 67]⟩, .int .i64 0, .int .i64 (-9223372036854775808), .int .i64 9223372036854775807, .bool false]) (by simp [results, Tryz.f224, go_sem]) rfl ⟨⟨_, _, _, _, rfl⟩, rfl⟩
theorem wrap_add (a b : Int) : wrap64 (wrap64 a + b) = wrap64 (a + b) := by unfold wrap64; omega
theorem day_in (y m d : Int) (hy0 : 0 ≤ y) (hy1 : y ≤ 1000000) (hm0 : 1 ≤ m) (hm1 : m ≤ 13) (hd0 : 1 ≤ d) (hd1 : d ≤ 1000) : -720000 ≤ Cal.day y m d ∧ Cal.day y m d ≤ 370000000 := by
 have h : 0 ≤ Cal.before y m ∧ Cal.before y m ≤ 366 := by
  have a := Cal.before_mono y hm0
  have b := Cal.before_mono y hm1
  rw [Cal.before_1] at a
  rw [Cal.before_13] at b
  constructor
  ·omega
  ·split at b <;> omega
 unfold Cal.day Cal.ys
 omega
theorem unix_of (n c : Int) (h0 : -720000 ≤ n) (h1 : n ≤ 370000000) (hc0 : 0 ≤ c) (hc1 : c < 86400) :
  wrap64 (wrap64 (wrap64 (wrap64 (n + Cal.off) * 86400) + c) + -9223372028741760000) = 86400 * n + c := by
 rw [wrap_i64 (n := n + Cal.off) (by unfold Cal.off; omega) (by unfold Cal.off; omega), wrap_add, Int.add_assoc, wrap_add]
 have : (n + Cal.off) * 86400 + (c + -9223372028741760000) = 86400 * n + c := by unfold Cal.off; omega
 rw [this, wrap_i64 (by omega) (by omega)]
theorem mkdate_c (y m d h i s : Int) (hy0 : 0 ≤ y) (hy1 : y ≤ 900000) (hm0 : 1 ≤ m) (hm1 : m ≤ 12) (hd0 : 1 ≤ d) (hd1 : d ≤ 100) (hh0 : 0 ≤ h) (hh1 : h < 24) (hi0 : 0 ≤ i) (hi1 : i < 60) (hs0 : 0 ≤ s) (hs1 : s < 60)
  (u : Nat) (w : World) (hu : IsUTC w u) :
  Calls Tryz.prog 207 #[.int .i64 y, .int .i64 m, .int .i64 d, .int .i64 h, .int .i64 i, .int .i64 s, .int .i64 0, .pointer (some ⟨u, 0, none⟩)] w fun r w' =>
   r = .returned (tm 0 (86400 * Cal.day y m d + (h * 3600 + i * 60 + s) + 62135596800) (.pointer none)) ∧ Below w.heap.size w w' := by
 have hus := hu.size
 have hm : m - 1 + 1 = m := by omega
 go_enter Tryz.func207, Tryz.ntmps207
 go_wp2_with fail
 refine (norm_in y (m - 1) 12 (by omega) (by omega) (by omega) (by omega) _).mono ?_
 rintro r w' ⟨rfl, rfl⟩
 go_wp2_with fail
 refine (norm_in s 0 1000000000 (by omega) (by omega) (by omega) (by omega) _).mono ?_
 rintro r w' ⟨rfl, rfl⟩
 go_wp2_with fail
 refine (norm_in i s 60 (by omega) (by omega) (by omega) (by omega) _).mono ?_
 rintro r w' ⟨rfl, rfl⟩
 go_wp2_with fail
 refine (norm_in h i 60 (by omega) (by omega) (by omega) (by omega) _).mono ?_
 rintro r w' ⟨rfl, rfl⟩
 go_wp2_with fail
 refine (norm_in d h 24 (by omega) (by omega) (by omega) (by omega) _).mono ?_
 rintro r w' ⟨rfl, rfl⟩
 go_wp2_with fail
 refine (absDays_c y m d hy0 (by omega) hm0 hm1 hd0 (by omega) _).mono ?_
 rintro r w' ⟨rfl, rfl⟩
 go_wp2_with fail
 have hb := day_in y m d hy0 (by omega) hm0 (by omega) hd0 (by omega)
 rw [unix_of _ _ hb.1 hb.2 (by omega) (by omega)]
 have hS : -70000000000 ≤ 86400 * Cal.day y m d + (h * 3600 + i * 60 + s) ∧ 86400 * Cal.day y m d + (h * 3600 + i * 60 + s) ≤ 32000000000000 := by omega
 refine (lookup_utc u _ _ (hu.below ((Below.refl _ _).alloc (Nat.le_refl _) _))).mono ?_
 rintro r w' ⟨⟨x1, x2, x3, x4, rfl⟩, rfl⟩
 go_wp2_with fail
 refine (unixTime_c _ 0 (by decide) (by decide) (by omega) (by omega) _).mono ?_
 rintro r w1 ⟨rfl, hb1⟩
 obtain ⟨hc, hf⟩ := bcell hb1
 have hz : w.heap.size < w1.heap.size := by have := hb1.size; simp at this; omega
 have hB : Below w.heap.size w w1 := ((Below.refl _ _).alloc (Nat.le_refl _) _).trans (hb1.mono (by simp))
 go_wp2_with fail
 refine (setLoc_utc _ _ 0 (by decide) (by decide) u _ (by simp [go_sem]) (.pointer none) (by simp [go_sem]) (by simp [go_sem]) ((hu.below hB).below ((Below.refl _ _).alloc (Nat.le_refl _) _))).mono ?_
 rintro r w' ⟨rfl, rfl⟩
 go_wp2
 exact bodyPost_ret (v := tm 0 (86400 * Cal.day y m d + (h * 3600 + i * 60 + s) + 62135596800) (.pointer none)) (by simp [results, Tryz.f207, go_sem, hc, hz]) rfl
  ⟨rfl, by repeat (first | exact hB | refine Below.setCell ?_ (by simp; try omega) _ | refine Below.alloc ?_ (by simp; try omega) _)⟩
theorem mkdate_13 (y d h i s : Int) (hy0 : 0 ≤ y) (hy1 : y ≤ 900000) (hd0 : 1 ≤ d) (hd1 : d ≤ 100) (hh0 : 0 ≤ h) (hh1 : h < 24) (hi0 : 0 ≤ i) (hi1 : i < 60) (hs0 : 0 ≤ s) (hs1 : s < 60)
  (u : Nat) (w : World) (hu : IsUTC w u) :
  Calls Tryz.prog 207 #[.int .i64 y, .int .i64 13, .int .i64 d, .int .i64 h, .int .i64 i, .int .i64 s, .int .i64 0, .pointer (some ⟨u, 0, none⟩)] w fun r w' =>
   r = .returned (tm 0 (86400 * Cal.day y 13 d + (h * 3600 + i * 60 + s) + 62135596800) (.pointer none)) ∧ Below w.heap.size w w' := by
 have hus := hu.size
 rw [Cal.day_13]
 go_enter Tryz.func207, Tryz.ntmps207
 go_wp2_with fail
 refine (norm_12 y (by omega) (by omega) _).mono ?_
 rintro r w' ⟨rfl, rfl⟩
 go_wp2_with fail
 refine (norm_in s 0 1000000000 (by omega) (by omega) (by omega) (by omega) _).mono ?_
 rintro r w' ⟨rfl, rfl⟩
 go_wp2_with fail
 refine (norm_in i s 60 (by omega) (by omega) (by omega) (by omega) _).mono ?_
 rintro r w' ⟨rfl, rfl⟩
 go_wp2_with fail
 refine (norm_in h i 60 (by omega) (by omega) (by omega) (by omega) _).mono ?_
 rintro r w' ⟨rfl, rfl⟩
 go_wp2_with fail
 refine (norm_in d h 24 (by omega) (by omega) (by omega) (by omega) _).mono ?_
 rintro r w' ⟨rfl, rfl⟩
 go_wp2_with fail
 refine (absDays_c (y + 1) 1 d (by omega) (by omega) (by omega) (by omega) hd0 (by omega) _).mono ?_
 rintro r w' ⟨rfl, rfl⟩
 go_wp2_with fail
 have hb := day_in (y + 1) 1 d (by omega) (by omega) (by omega) (by omega) hd0 (by omega)
 rw [unix_of _ _ hb.1 hb.2 (by omega) (by omega)]
 have hS : -70000000000 ≤ 86400 * Cal.day (y + 1) 1 d + (h * 3600 + i * 60 + s) ∧ 86400 * Cal.day (y + 1) 1 d + (h * 3600 + i * 60 + s) ≤ 32000000000000 := by omega
 refine (lookup_utc u _ _ (hu.below ((Below.refl _ _).alloc (Nat.le_refl _) _))).mono ?_
 rintro r w' ⟨⟨x1, x2, x3, x4, rfl⟩, rfl⟩
 go_wp2_with fail
 refine (unixTime_c _ 0 (by decide) (by decide) (by omega) (by omega) _).mono ?_
 rintro r w1 ⟨rfl, hb1⟩
 obtain ⟨hc, hf⟩ := bcell hb1
 have hz : w.heap.size < w1.heap.size := by have := hb1.size; simp at this; omega
 have hB : Below w.heap.size w w1 := ((Below.refl _ _).alloc (Nat.le_refl _) _).trans (hb1.mono (by simp))
 go_wp2_with fail
 refine (setLoc_utc _ _ 0 (by decide) (by decide) u _ (by simp [go_sem]) (.pointer none) (by simp [go_sem]) (by simp [go_sem]) ((hu.below hB).below ((Below.refl _ _).alloc (Nat.le_refl _) _))).mono ?_
 rintro r w' ⟨rfl, rfl⟩
 go_wp2
 exact bodyPost_ret (v := tm 0 (86400 * Cal.day (y + 1) 1 d + (h * 3600 + i * 60 + s) + 62135596800) (.pointer none)) (by simp [results, Tryz.f207, go_sem, hc, hz]) rfl
  ⟨rfl, by repeat (first | exact hB | refine Below.setCell ?_ (by simp; try omega) _ | refine Below.alloc ?_ (by simp; try omega) _)⟩
theorem mkdate (y m d h i s : Int) (hy0 : 0 ≤ y) (hy1 : y ≤ 900000) (hm0 : 1 ≤ m) (hm1 : m ≤ 13) (hd0 : 1 ≤ d) (hd1 : d ≤ 100) (hh0 : 0 ≤ h) (hh1 : h < 24) (hi0 : 0 ≤ i) (hi1 : i < 60) (hs0 : 0 ≤ s) (hs1 : s < 60)
  (u : Nat) (w : World) (hu : IsUTC w u) :
  Calls Tryz.prog 207 #[.int .i64 y, .int .i64 m, .int .i64 d, .int .i64 h, .int .i64 i, .int .i64 s, .int .i64 0, .pointer (some ⟨u, 0, none⟩)] w fun r w' =>
   r = .returned (tm 0 (86400 * Cal.day y m d + (h * 3600 + i * 60 + s) + 62135596800) (.pointer none)) ∧ Below w.heap.size w w' := by
 by_cases c : m = 13
 ·subst c; exact mkdate_13 y d h i s hy0 hy1 hd0 hd1 hh0 hh1 hi0 hi1 hs0 hs1 u w hu
 ·exact mkdate_c y m d h i s hy0 hy1 hm0 (by omega) hd0 hd1 hh0 hh1 hi0 hi1 hs0 hs1 u w hu
theorem cY_in {e : Int} (h0 : 0 ≤ e) (h1 : e ≤ 1000000000000) : 1 ≤ Cal.cY (dn e) ∧ Cal.cY (dn e) ≤ 40000 := by
 have hn : dn e = (e - 62135596800) / 86400 + Cal.off := by unfold dn Cal.off; omega
 have hv := Cal.Y_bounds ((e - 62135596800) / 86400)
 unfold Cal.Y at hv
 rw [← hn] at hv
 unfold Cal.ys at hv
 omega
theorem cM_in (N : Int) : 1 ≤ Cal.cM N ∧ Cal.cM N ≤ 12 ∧ 1 ≤ Cal.aD N ∧ Cal.aD N ≤ 31 := by
 have hv := Cal.abs_valid N
 have hp := Cal.mdays_pos (Cal.cY N) (Cal.cM N)
 obtain ⟨a, b, c, d⟩ := hv
 omega
theorem addDate_c (e mm dd : Int) (hs0 : 0 ≤ e) (hs1 : e ≤ 1000000000000) (hm0 : 0 ≤ mm) (hm1 : mm ≤ 1) (hd0 : 0 ≤ dd) (hd1 : dd ≤ 1) (w : World) :
  Calls Tryz.prog 208 #[tm 0 e (.pointer none), .int .i64 0, .int .i64 mm, .int .i64 dd] w fun r w' =>
   r = .returned (tm 0 (86400 * Cal.day (Cal.cY (dn e)) (Cal.cM (dn e) + mm) (Cal.aD (dn e) + dd) + (e % 86400 / 3600 * 3600 + e % 3600 / 60 * 60 + e % 60) + 62135596800) (.pointer none)) ∧ Below w.heap.size w w' := by
 have hY := cY_in hs0 hs1
 have hM := cM_in (dn e)
 obtain ⟨y0, y1⟩ := hY
 obtain ⟨m0, m1, d0, d1⟩ := hM
 go_enter Tryz.func208, Tryz.ntmps208
 go_wp2_with fail
 refine (date_t 0 e (by decide) (by decide) (by omega) (by omega) _).mono ?_
 rintro r w1 ⟨rfl, hb1⟩
 obtain ⟨hc, hf⟩ := bcell hb1
 have hz : w.heap.size + 1 < w1.heap.size := by have := hb1.size; simp at this; omega
 have hB : Below w.heap.size w w1 := (((Below.refl _ _).alloc (Nat.le_refl _) _).alloc (by simp) _).trans (hb1.mono (by simp; omega))
 go_wp2_with fail
 refine (clock_t 0 e (by decide) (by decide) (by omega) (by omega) _).mono ?_
 rintro r w2 ⟨rfl, hb2⟩
 obtain ⟨hc2, hf2⟩ := bcell hb2
 have hz2 : w.heap.size + 1 < w2.heap.size := by have := hb2.size; omega
 have hB2 : Below w.heap.size w w2 := hB.trans (hb2.mono (by omega))
 go_wp2_with fail
 have hx : ∀ x : Int, 0 ≤ x → x ≤ 100000 → IntKind.i64.wrap x = x := fun x h0 h1 => by simp only [IntKind.wrap, IntKind.bits, IntKind.signed]; simp; omega
 have f1 : IntKind.i64.wrap (Cal.cY (dn e)) = Cal.cY (dn e) := hx _ (by omega) (by omega)
 have f2 : IntKind.i64.wrap (Cal.cM (dn e) + mm) = Cal.cM (dn e) + mm := hx _ (by omega) (by omega)
 have f3 : IntKind.i64.wrap (Cal.aD (dn e) + dd) = Cal.aD (dn e) + dd := hx _ (by omega) (by omega)
 clear hx
 have k0 : w2.cell? ⟨w.heap.size, 0, none⟩ = some (.int .u64 0) := by rw [hc2 _ _ (by omega), hc _ _ (by simp; omega)]; simp [go_sem]
 have k1 : w2.cell? ⟨w.heap.size, 1, none⟩ = some (.int .i64 e) := by rw [hc2 _ _ (by omega), hc _ _ (by simp; omega)]; simp [go_sem]
 have k2 : w2.cell? ⟨w.heap.size, 2, none⟩ = some (.pointer none) := by rw [hc2 _ _ (by omega), hc _ _ (by simp; omega)]; simp [go_sem]
 have k3 : w2.cell? ⟨w.heap.size + 1, 0, none⟩ = some (.int .u64 0) := by rw [hc2 _ _ (by omega), hc _ _ (by simp)]; simp [go_sem]
 have k4 : w2.cell? ⟨w.heap.size + 1, 1, none⟩ = some (.int .i64 0) := by rw [hc2 _ _ (by omega), hc _ _ (by simp)]; simp [go_sem]
 have k5 : w2.cell? ⟨w.heap.size + 1, 2, none⟩ = some (.pointer none) := by rw [hc2 _ _ (by omega), hc _ _ (by simp)]; simp [go_sem]
 have k6 : w2.frozen? ⟨w.heap.size + 1, 0, none⟩ = false := by rw [hf2 _ _ (by omega), hf _ _ (by simp)]; simp [go_sem]
 have k7 : w2.frozen? ⟨w.heap.size + 1, 1, none⟩ = false := by rw [hf2 _ _ (by omega), hf _ _ (by simp)]; simp [go_sem]
 have k8 : w2.frozen? ⟨w.heap.size + 1, 2, none⟩ = false := by rw [hf2 _ _ (by omega), hf _ _ (by simp)]; simp [go_sem]
 clear hc hf hc2 hf2 hb1 hb2 hB
 go_region_with (first
   | (go_at_call 126; refine (nsec_c _ _ 0 (by decide) (by decide) _ (by simp [go_sem, k0])).mono ?_; rintro r w' ⟨rfl, rfl⟩)
   | (go_at_call 203; refine (location_c 0 e _).mono ?_; rintro r w3 ⟨u, rfl, hu0, hu, hb3⟩; obtain ⟨hc3, hf3⟩ := bcell hb3; have hz3 : w.heap.size + 1 < w3.heap.size := (by have := hb3.size; simp at this; omega))
   | (go_at_call 207; refine (mkdate _ _ _ _ _ _ (by omega) (by omega) (by omega) (by omega) (by omega) (by omega) (by omega) (by omega) (by omega) (by omega) (by omega) (by omega) u _ hu).mono ?_; rintro r w4 ⟨rfl, hb4⟩; obtain ⟨hc4, hf4⟩ := bcell hb4; have hz4 : w.heap.size + 1 < w4.heap.size := (by have := hb4.size; omega)
      have hy : w.heap.size + 1 < w2.drew.heap.size := (by simp; omega)
      have q3 : w4.cell? ⟨w.heap.size + 1, 0, none⟩ = some (.int .u64 0) := (by rw [hc4 _ _ hz3, hc3 _ _ hy]; simpa using k3)
      have q4 : w4.cell? ⟨w.heap.size + 1, 1, none⟩ = some (.int .i64 0) := (by rw [hc4 _ _ hz3, hc3 _ _ hy]; simpa using k4)
      have q5 : w4.cell? ⟨w.heap.size + 1, 2, none⟩ = some (.pointer none) := (by rw [hc4 _ _ hz3, hc3 _ _ hy]; simpa using k5)
      have q6 : w4.frozen? ⟨w.heap.size + 1, 0, none⟩ = false := (by rw [hf4 _ _ hz3, hf3 _ _ hy]; simpa using k6)
      have q7 : w4.frozen? ⟨w.heap.size + 1, 1, none⟩ = false := (by rw [hf4 _ _ hz3, hf3 _ _ hy]; simpa using k7)
      have q8 : w4.frozen? ⟨w.heap.size + 1, 2, none⟩ = false := (by rw [hf4 _ _ hz3, hf3 _ _ hy]; simpa using k8)
      clear hc4 hf4 hc3 hf3))
 all_goals
  have b0 : Below w.heap.size w w4 := (((hB2.drew).trans (hb3.mono (by simp; omega))).trans (hb4.mono (by omega)))
  go_wp2
  exact bodyPost_ret (v := tm 0 (86400 * Cal.day (Cal.cY (dn e)) (Cal.cM (dn e) + mm) (Cal.aD (dn e) + dd) + (e % 86400 / 3600 * 3600 + e % 3600 / 60 * 60 + e % 60) + 62135596800) (.pointer none)) (by simp [results, Tryz.f208, go_sem, q3, q4, q5]) rfl
   ⟨rfl, by repeat (first | exact b0 | refine Below.setCell ?_ (by simp) _)⟩
end Go.Proofs.YtcjdideliifkhaaGreatDoor
