import Derived.Laws.Bits64
import Derived.Test.YtcjdideliifkhaaGreatDoorB28
import Derived.Test.YtcjdideliifkhaaGreatDoorB06
set_option maxRecDepth 100000
set_option maxHeartbeats 16000000
namespace Go.Proofs.YtcjdideliifkhaaGreatDoor
open Go.RowKit Go.Proofs.YtcjdideliifkhaaGreatDoorW.PrintWords Go.Proofs.YtcjdideliifkhaaGreatDoorW.PrintLast Go.Proofs.YtcjdideliifkhaaGreatDoorW.PrintMore PFnCronTextAfterAnywhere
set_option linter.unusedVariables false
set_option linter.unusedSimpArgs false
theorem digits_parse : ∀ (l : Txt) (n : Nat), (∀ c ∈ l, dig c = true) → l.foldl dval n ≤ 1099511627776 → Lib.parseUint10 n l = .ok (l.foldl dval n) := by
 intro l
 induction l with
 | nil => intro n _ _; rfl
 | cons c l ih =>
  intro n hd hv
  have hc := dig_rng (hd c (List.mem_cons_self ..))
  have hm := val_mono l (dval n c)
  rw [List.foldl_cons] at hv
  have := ih (dval n c) (fun x hx => hd x (List.mem_cons_of_mem _ hx)) hv
  have he : dval n c = n * 10 + (c.toNat - 48) := by unfold dval; omega
  have hle : n * 10 + (c.toNat - 48) ≤ 1099511627776 := by omega
  rw [List.foldl_cons, Lib.parseUint10, if_pos hc, if_neg (by omega), if_neg (by omega), ← he]
  exact this
theorem digits_atoi (l : Txt) (hd : Digits l) (hv : val l ≤ 1099511627776) : Lib.atoiAll l = .ok (val l : Nat) := by
 obtain ⟨hne, hall⟩ := hd
 have hp := digits_parse l 0 hall hv
 cases l with
 | nil => exact absurd rfl hne
 | cons c r =>
  have hc := dig_rng (hall c (List.mem_cons_self ..))
  have hv' : (c :: r).foldl dval 0 = val (c :: r) := rfl
  rw [hv'] at hp
  have hm : Lib.parseMag (c :: r) = .ok (val (c :: r)) := by unfold Lib.parseMag; rw [if_neg (by simp)]; exact hp
  generalize val (c :: r) = n at *
  unfold Lib.atoiAll
  simp only
  rw [if_neg (show ¬ (c.toNat = 43 ∨ c.toNat = 45) by omega), hm]
  simp only
  rw [if_neg (by omega), if_neg (by omega), if_neg (by omega)]
theorem mustInt_c (s : ByteArray) (hs : s.size ≤ 4294967296) (hd : Digits (toL s)) (hv : val (toL s) ≤ 1099511627776) (w : World) :
  Calls Tryz.prog 124 #[.string s] w fun e w' => e = .returned (.tuple #[.int .u64 (val (toL s) : Int), .nilIface]) ∧ Below w.heap.size w w' := by
 have ha := digits_atoi (toL s) hd hv
 generalize val (toL s) = n at *
 have HA := Lib.hid (fun w => Tryz.strconv_Atoi_ok s (by omega) (n : Int) ha w)
 clear ha hd
 go_enter Tryz.func124, Tryz.ntmps124
 go_wp2_with (go_at_call 146; refine (HA.out _).mono ?_; rintro e w2 ⟨rfl, hw2⟩; have HB2 := Lib.hid (show Below w.heap.size w w2 by rcases hw2 with rfl | ⟨t, rfl⟩; exact Below.refl _ _; exact Lib.bytesWorld_below _ _ _); clear hw2)
 go_ret2
 exact ⟨rfl, HB2.out⟩
theorem up_low (c X : UInt8) (h : 65 ≤ X.toNat ∧ X.toNat ≤ 90) : up c = X ↔ low8 c = X + 32 := by
 have h1 := up_nat c
 have h2 := low8_nat c
 have h3 : (X + 32).toNat = X.toNat + 32 := by rw [UInt8.toNat_add]; simp; omega
 constructor
 ·intro e
  apply UInt8.toNat_inj.1
  rw [h3, h2]
  rw [e] at h1
  have hc := c.toNat_lt
  split at h1 <;> split <;> omega
 ·intro e
  apply UInt8.toNat_inj.1
  rw [e, h3] at h2
  have hc := c.toNat_lt
  split at h1 <;> split at h2 <;> omega
theorem same_low : ∀ (N l : Txt), (∀ x ∈ N, 65 ≤ x.toNat ∧ x.toNat ≤ 90) → (sameL N l = true ↔ l.map low8 = N.map (· + 32)) := by
 intro N
 induction N with
 | nil => intro l _; cases l <;> simp [sameL]
 | cons X N ih =>
  intro l hN
  have hX := hN X (List.mem_cons_self ..)
  have hupX : up X = X := by
   apply UInt8.toNat_inj.1
   have := up_nat X
   rw [if_neg (by omega)] at this
   omega
  cases l with
  | nil => simp [sameL]
  | cons c l =>
   have := ih l (fun x hx => hN x (List.mem_cons_of_mem _ hx))
   rw [sameL_cons, hupX, List.map_cons, List.map_cons]
   by_cases e : up c = X
   ·rw [if_pos e.symm, this, (up_low c X hX).1 e]; simp
   ·rw [if_neg (fun h => e h.symm)]
    have : low8 c ≠ X + 32 := fun h => e ((up_low c X hX).2 h)
    simp [this]
def namesF (kind : Int) : List (Txt × Int) := if kind = 4 then monthsF else dowF
theorem names_up (kind : Int) (hk : kind = 4 ∨ kind = 5) (v : Nat) (h0 : low kind ≤ v) (h1 : (v : Int) ≤ high kind) : (∀ x ∈ nameL kind v, 65 ≤ x.toNat ∧ x.toNat ≤ 90) ∧ lookF (namesF kind) ((nameL kind v).map (· + 32)) = some (v : Int) := by
 rcases hk with rfl | rfl
 ·have hlo : low 4 = 1 := rfl
  have hhi : high 4 = 12 := rfl
  have : v = 1 ∨ v = 2 ∨ v = 3 ∨ v = 4 ∨ v = 5 ∨ v = 6 ∨ v = 7 ∨ v = 8 ∨ v = 9 ∨ v = 10 ∨ v = 11 ∨ v = 12 := by omega
  rcases this with rfl | rfl | rfl | rfl | rfl | rfl | rfl | rfl | rfl | rfl | rfl | rfl <;> exact ⟨by decide, rfl⟩
 ·have hlo : low 5 = 0 := rfl
  have hhi : high 5 = 6 := rfl
  have : v = 0 ∨ v = 1 ∨ v = 2 ∨ v = 3 ∨ v = 4 ∨ v = 5 ∨ v = 6 := by omega
  rcases this with rfl | rfl | rfl | rfl | rfl | rfl | rfl <;> exact ⟨by decide, rfl⟩
theorem named_look {kind : Int} {l : Txt} {v : Nat} (h : Named kind l v) : lookF (namesF kind) (l.map low8) = some (v : Int) := by
 obtain ⟨hk, h0, h1, hs⟩ := h
 obtain ⟨hu, hl⟩ := names_up kind hk v h0 h1
 rw [(same_low _ _ hu).1 hs]; exact hl
theorem lookF_mem {l : List (Txt × Int)} {key : Txt} {v : Int} (h : lookF l key = some v) : (key, v) ∈ l := by
 induction l with
 | nil => cases h
 | cons p l ih =>
  obtain ⟨k, u⟩ := p
  unfold lookF at h
  split at h
  ·rename_i e; cases h; rw [e]; exact List.mem_cons_self ..
  ·exact List.mem_cons_of_mem _ (ih h)
theorem names_all (kind : Int) (hk : kind = 4 ∨ kind = 5) : ∀ p ∈ namesF kind, ∃ v : Nat, p = ((nameL kind v).map (· + 32), (v : Int)) ∧ low kind ≤ v ∧ (v : Int) ≤ high kind := by
 rcases hk with rfl | rfl
 ·intro p hp
  have hp' : p ∈ monthsF := hp
  unfold monthsF at hp'
  simp only [List.mem_cons, List.not_mem_nil, or_false] at hp'
  rcases hp' with rfl | rfl | rfl | rfl | rfl | rfl | rfl | rfl | rfl | rfl | rfl | rfl
  ·exact ⟨12, rfl, by decide, by decide⟩
  ·exact ⟨11, rfl, by decide, by decide⟩
  ·exact ⟨10, rfl, by decide, by decide⟩
  ·exact ⟨9, rfl, by decide, by decide⟩
  ·exact ⟨8, rfl, by decide, by decide⟩
  ·exact ⟨7, rfl, by decide, by decide⟩
  ·exact ⟨6, rfl, by decide, by decide⟩
  ·exact ⟨5, rfl, by decide, by decide⟩
  ·exact ⟨4, rfl, by decide, by decide⟩
  ·exact ⟨3, rfl, by decide, by decide⟩
  ·exact ⟨2, rfl, by decide, by decide⟩
  ·exact ⟨1, rfl, by decide, by decide⟩
 ·intro p hp
  have hp' : p ∈ dowF := hp
  unfold dowF at hp'
  simp only [List.mem_cons, List.not_mem_nil, or_false] at hp'
  rcases hp' with rfl | rfl | rfl | rfl | rfl | rfl | rfl
  ·exact ⟨6, rfl, by decide, by decide⟩
  ·exact ⟨5, rfl, by decide, by decide⟩
  ·exact ⟨4, rfl, by decide, by decide⟩
  ·exact ⟨3, rfl, by decide, by decide⟩
  ·exact ⟨2, rfl, by decide, by decide⟩
  ·exact ⟨1, rfl, by decide, by decide⟩
  ·exact ⟨0, rfl, by decide, by decide⟩
theorem unnamed_look {kind : Int} (hk : kind = 4 ∨ kind = 5) {l : Txt} (h : ∀ v, ¬ Named kind l v) : lookF (namesF kind) (l.map low8) = none := by
 cases hl : lookF (namesF kind) (l.map low8) with
 | none => rfl
 | some u =>
  obtain ⟨v, hv, h0, h1⟩ := names_all kind hk _ (lookF_mem hl)
  injection hv with e1 e2
  exact absurd ⟨hk, h0, h1, (same_low _ _ (names_up kind hk v h0 h1).1).2 e1⟩ (h v)
def NamesAt (kind : Int) (w : World) (m : Option Nat) : Prop := (∃ b, m = some b ∧ MapIs w 118 b (namesF kind) ∧ (kind = 4 ∨ kind = 5)) ∨ (m = none ∧ kind ≠ 4 ∧ kind ≠ 5)
theorem NamesAt.below {kind : Int} {w w' : World} {m : Option Nat} (h : NamesAt kind w m) (hb : Below w.heap.size w w') : NamesAt kind w' m := by
 rcases h with ⟨b, h1, h2, h3⟩ | h
 ·exact .inl ⟨b, h1, h2.below hb, h3⟩
 ·exact .inr h
theorem BndAt.names {kind : Int} {w : World} {v : Value} (h : BndAt kind w v) : ∃ m, v = .agg #[.int .u64 (low kind), .int .u64 (high kind), .map m] ∧ NamesAt kind w m := by
 obtain ⟨m, rfl, h⟩ := h
 refine ⟨m, rfl, ?_⟩
 rcases h with ⟨rfl, b, h2, h3⟩ | ⟨rfl, b, h2, h3⟩ | ⟨h1, h2, h3⟩
 ·exact .inl ⟨b, h2, h3, .inl rfl⟩
 ·exact .inl ⟨b, h2, h3, .inr rfl⟩
 ·exact .inr ⟨h3, h1, h2⟩
theorem zero118 (w : World) : (zeroValue 118).run Tryz.prog w = .ok (.int .u64 0) w := by kernel_rfl
theorem intOrName_c (kind : Int) (s : ByteArray) (hs : s.size ≤ 4294967295) (ha : foreign (toL s) = false) (n : Int) (hv : ValR kind (toL s) n) (hn : n < 1099511627776) (m : Option Nat) (w : World) (hm : NamesAt kind w m) :
  Calls Tryz.prog 123 #[.string s, .map m] w fun e w' => e = .returned (.tuple #[.int .u64 n, .nilIface]) ∧ Below w.heap.size w w' := by
 have hnn := fun w => run_neq_map_nil (P := Tryz.prog) w 119 9 118 m Tryz.underlying119
 have hnum : (∀ v, ¬ Named kind (toL s) v) → Digits (toL s) ∧ n = (val (toL s) : Nat) ∧ val (toL s) ≤ 1099511627776 := fun h => by
  rcases hv with ⟨v, _, h2⟩ | ⟨_, h2, h3⟩
  ·exact absurd h2 (h v)
  ·exact ⟨h2, by omega, by omega⟩
 rcases hm with ⟨b, rfl, hM, hk⟩ | ⟨rfl, hk4, hk5⟩
 ·have hlen : ((toL s).map low8).length ≤ 4294967296 := by rw [List.length_map, toL_len]; omega
  have HM := Lib.hid hM
  have HL := Lib.hid (fun w => lower_c s hs ha w)
  have hnn2 : ∀ w, (binOp .neq 119 (.map (some b)) (.map none)).run Tryz.prog w = .ok (.bool true) w := fun w => hnn w
  clear hM hnn
  rcases hv with ⟨v, rfl, hN⟩ | ⟨hN, hx1, hx2⟩
  ·have hlk := named_look hN
   clear hnum hN
   have HK := Lib.hid hlk
   clear hlk
   generalize (toL s).map low8 = key at *
   go_enter Tryz.func123, Tryz.ntmps123
   go_wp2_with (go_at_call 145; refine (HL.out _).mono ?_; rintro e w2 ⟨rfl, hb2⟩; have hlook := ((HM.out.below hb2).look Tryz.underlying118 (zero118 _) Tryz.underlying119 key hlen).1 _ HK.out; have HB2 := Lib.hid hb2; clear hb2)
   go_ret2
   exact ⟨rfl, HB2.out⟩
  ·obtain ⟨hd, rfl, hle⟩ := hnum hN
   have hlk := unnamed_look hk hN
   have HK := Lib.hid hlk
   have HI := Lib.hid (fun w => mustInt_c s (by omega) hd hle w)
   clear hlk hnum hd hN hx1 hx2
   generalize (toL s).map low8 = key at *
   generalize val (toL s) = nn at *
   go_enter Tryz.func123, Tryz.ntmps123
   go_wp2_with (first
    | (go_at_call 145; refine (HL.out _).mono ?_; rintro e w2 ⟨rfl, hb2⟩; have hlook := ((HM.out.below hb2).look Tryz.underlying118 (zero118 _) Tryz.underlying119 key hlen).2 HK.out; obtain ⟨c0, hlook⟩ := hlook; have HB2 := Lib.hid hb2; clear hb2)
    | (go_at_call 124; refine (HI.out _).mono ?_; rintro e w3 ⟨rfl, hb3⟩; have HB3 := Lib.hid (below_step HB2.out hb3); clear hb3))
   go_ret2
   exact ⟨rfl, HB3.out⟩
 ·have hnn2 : ∀ w, (binOp .neq 119 (.map none) (.map none)).run Tryz.prog w = .ok (.bool false) w := fun w => hnn w
  clear hnn
  obtain ⟨hd, rfl, hle⟩ := hnum (fun v h => h.1.elim hk4 hk5)
  have HI := Lib.hid (fun w => mustInt_c s (by omega) hd hle w)
  clear hnum hd hv
  generalize val (toL s) = nn at *
  go_enter Tryz.func123, Tryz.ntmps123
  go_wp2_with (go_at_call 124; refine (HI.out _).mono ?_; rintro e w3 ⟨rfl, hb3⟩; have HB3 := Lib.hid hb3; clear hb3)
  go_ret2
  exact ⟨rfl, HB3.out⟩
def rangeN (lo hi : Nat) (step N : Nat) : Prop := N < 18446744073709551616 ∧ ∀ i, N.testBit i = decide (lo ≤ i ∧ i ≤ hi ∧ (i - lo) % step = 0)
def fromN (k : Nat) : Nat := 2 ^ k * (2 ^ (64 - k) - 1)
theorem fromN_bit (k : Nat) (hk : k ≤ 64) (i : Nat) : (fromN k).testBit i = decide (k ≤ i ∧ i < 64) := by
 unfold fromN
 rw [Nat.testBit_two_pow_mul, Nat.testBit_two_pow_sub_one]
 by_cases h : k ≤ i
 ·simp [h]; omega
 ·simp [h]
theorem fromN_lt (k : Nat) (hk : k ≤ 64) : fromN k < 18446744073709551616 := by
 have h : fromN k < 2 ^ 64 := by
  unfold fromN
  have h1 : 2 ^ k * 2 ^ (64 - k) = 2 ^ 64 := by rw [← Nat.pow_add]; congr 1; omega
  have h2 : 0 < 2 ^ (64 - k) := Nat.two_pow_pos _
  have h3 : 0 < 2 ^ k := Nat.two_pow_pos _
  calc 2 ^ k * (2 ^ (64 - k) - 1) < 2 ^ k * 2 ^ (64 - k) := Nat.mul_lt_mul_of_pos_left (by omega) h3
   _ = 2 ^ 64 := h1
 exact h
theorem fromN_wrap (k : Nat) (hk : k ≤ 64) : IntKind.u64.wrap (18446744073709551615 * 2 ^ k) = (fromN k : Nat) := by
 rw [IntKind.wrap_u64]
 have h1 : (2 : Nat) ^ k * 2 ^ (64 - k) = 2 ^ 64 := by rw [← Nat.pow_add]; congr 1; omega
 have h3 : 0 < 2 ^ k := Nat.two_pow_pos _
 have hle : 2 ^ k ≤ 2 ^ 64 := Nat.pow_le_pow_right (by decide) hk
 have hf : fromN k = 18446744073709551616 - 2 ^ k := by
  unfold fromN
  rw [Nat.mul_sub, h1, Nat.mul_one]
 rw [hf]
 have e : ((2 : Int) ^ k) = ((2 ^ k : Nat) : Int) := by simp
 rw [e]
 have hle' : 2 ^ k ≤ 18446744073709551616 := hle
 generalize 2 ^ k = z at *
 omega
theorem bits_one (lo hi : Nat) (h1 : lo ≤ hi) (h2 : hi < 63) : ∃ N : Nat, bits .and .u64 (bits .xor .u64 IntKind.u64.max (IntKind.u64.wrap (18446744073709551615 * 2 ^ (hi + 1)))) (IntKind.u64.wrap (18446744073709551615 * 2 ^ lo)) = (N : Int) ∧ rangeN lo hi 1 N := by
 rw [fromN_wrap _ (by omega), fromN_wrap _ (by omega)]
 have hm : IntKind.u64.max = ((fromN 0 : Nat) : Int) := by decide
 rw [hm, bits_xor_u64_nat _ _ (fromN_lt 0 (by decide)) (fromN_lt _ (by omega))]
 have hx : (fromN 0 ^^^ fromN (hi + 1)) < 2 ^ 64 := Nat.xor_lt_two_pow (fromN_lt 0 (by decide)) (fromN_lt _ (by omega))
 rw [(bits_nat .u64 64 (by decide) wraps_u64 _ _ hx (fromN_lt lo (by omega))).1]
 refine ⟨_, rfl, Nat.and_lt_two_pow _ (n := 64) (fromN_lt lo (by omega)), fun i => ?_⟩
 rw [Nat.testBit_and, Nat.testBit_xor, fromN_bit _ (by decide), fromN_bit _ (by omega), fromN_bit _ (by omega), Nat.mod_one]
 by_cases a : lo ≤ i <;> by_cases b : i ≤ hi <;> by_cases c : i < 64 <;> simp [a, b, c] <;> omega
def partN (lo step i N : Nat) : Prop := N < 18446744073709551616 ∧ ∀ j, N.testBit j = decide (lo ≤ j ∧ j < i ∧ (j - lo) % step = 0)
theorem part_step {lo step k N : Nat} (hs : 0 < step) (h : partN lo step (lo + k * step) N) (hi : lo + k * step < 63) :
  ∃ N' : Nat, bits .or .u64 (N : Int) (IntKind.u64.wrap (2 ^ (lo + k * step))) = (N' : Int) ∧ partN lo step (lo + (k + 1) * step) N' := by
 have hw : IntKind.u64.wrap (2 ^ (lo + k * step)) = ((2 ^ (lo + k * step) : Nat) : Int) := by
  have hlt : 2 ^ (lo + k * step) < 2 ^ 64 := Nat.pow_lt_pow_right (by decide) (by omega)
  have e : ((2 : Int) ^ (lo + k * step)) = ((2 ^ (lo + k * step) : Nat) : Int) := by simp
  rw [e, wraps_u64 _ (Int.natCast_nonneg _) (by exact_mod_cast hlt)]
 have hp : 2 ^ (lo + k * step) < 2 ^ 64 := Nat.pow_lt_pow_right (by decide) (by omega)
 rw [hw, (bits_nat .u64 64 (by decide) wraps_u64 N _ h.1 hp).2]
 refine ⟨_, rfl, Nat.or_lt_two_pow (n := 64) h.1 hp, fun j => ?_⟩
 rw [Nat.testBit_or, h.2, Nat.testBit_two_pow]
 by_cases a : lo + k * step = j
 ·subst a
  have : (lo + k * step - lo) % step = 0 := by rw [Nat.add_sub_cancel_left]; exact Nat.mul_mod_left _ _
  simp [this, Nat.add_mul]; omega
 ·simp only [a, decide_false, Bool.or_false]
  rw [decide_eq_decide]
  constructor
  ·rintro ⟨b1, b2, b3⟩; exact ⟨b1, by rw [Nat.add_mul]; omega, b3⟩
  ·rintro ⟨b1, b2, b3⟩
   refine ⟨b1, ?_, b3⟩
   obtain ⟨q, hq⟩ := Nat.dvd_of_mod_eq_zero b3
   have h1 : j = lo + step * q := by omega
   subst h1
   have hlt : q < k + 1 := by
    have : step * q < step * (k + 1) := by rw [Nat.mul_comm step (k + 1)]; omega
    exact Nat.lt_of_mul_lt_mul_left this
   have hne : q ≠ k := fun e => a (by rw [e, Nat.mul_comm])
   have : step * q < step * k := Nat.mul_lt_mul_of_pos_left (by omega) hs
   rw [Nat.mul_comm k step]; omega
theorem part_done {lo hi step k N : Nat} (hs : 0 < step) (h : partN lo step (lo + k * step) N) (h1 : hi < lo + k * step) (h2 : k = 0 ∨ lo + (k - 1) * step ≤ hi) : rangeN lo hi step N := by
 refine ⟨h.1, fun j => ?_⟩
 rw [h.2, decide_eq_decide]
 constructor
 ·rintro ⟨b1, b2, b3⟩
  refine ⟨b1, ?_, b3⟩
  obtain ⟨q, hq⟩ := Nat.dvd_of_mod_eq_zero b3
  have e : j = lo + step * q := by omega
  subst e
  rcases h2 with rfl | h2
  ·rw [Nat.zero_mul] at b2; omega
  ·have hlt : q < k := by
    have : step * q < step * k := by rw [Nat.mul_comm step k]; omega
    exact Nat.lt_of_mul_lt_mul_left this
   have : step * q ≤ step * (k - 1) := Nat.mul_le_mul_left _ (by omega)
   rw [Nat.mul_comm step (k - 1)] at this
   omega
 ·rintro ⟨b1, b2, b3⟩; exact ⟨b1, by omega, b3⟩
def GbL (lo hi step : Nat) (v7 v8 : Value) : Prop :=
 ∃ k N : Nat, v7 = .int .u64 (N : Int) ∧ v8 = .int .u64 ((lo + k * step : Nat) : Int) ∧ partN lo step (lo + k * step) N ∧ (k = 0 ∨ lo + (k - 1) * step ≤ hi)
theorem getBits_c (lo hi step : Nat) (h1 : lo ≤ hi) (h2 : hi < 63) (h3 : 0 < step) (h4 : step ≤ 1099511627776) (w : World) :
  Calls Tryz.prog 117 #[.int .u64 (lo : Int), .int .u64 (hi : Int), .int .u64 (step : Int)] w fun e w' => ∃ N : Nat, e = .returned (.int .u64 (N : Int)) ∧ rangeN lo hi step N ∧ w = w' := by
 by_cases hs : step = 1
 ·have hs1 : ((step : Int) == 1) = true := by simp; omega
  obtain ⟨N, hN, hR⟩ := bits_one lo hi h1 h2
  subst hs
  have HN := Lib.hid hN
  have HR := Lib.hid hR
  clear hN hR
  go_enter Tryz.func117, Tryz.ntmps117
  go_wp2
  go_ret
  exact ⟨N, congrArg (fun x => Ending.returned (Value.int .u64 x)) HN.out, HR.out, rfl⟩
 ·have hs1 : ((step : Int) == 1) = false := by simp; omega
  go_enter Tryz.func117, Tryz.ntmps117
  go_wp2
  go_loop [7, 8] (fun v7 v8 => GbL lo hi step v7 v8) (fun _ v8 => (hi + 1 - (intOf v8).toNat))
  case atStart => exact ⟨0, 0, rfl, by simp, ⟨by decide, fun j => by simp; omega⟩, .inl rfl⟩
  case round =>
   obtain ⟨k, N, rfl, rfl, hP, hk⟩ := hrel
   by_cases hle : lo + k * step ≤ hi
   ·obtain ⟨N', hN', hP'⟩ := part_step h3 hP (by omega)
    have HN := Lib.hid hN'
    have HP := Lib.hid hP'
    have he : lo + (k + 1) * step = lo + k * step + step := by rw [Nat.add_mul]; omega
    have HE := Lib.hid he
    clear hN' hP' he hP hk
    obtain ⟨i, hi⟩ : ∃ i, i = lo + k * step := ⟨_, rfl⟩
    have HI := Lib.hid hi
    rw [← hi] at hle HN HE
    rw [← hi]
    clear hi
    have hle' : (i : Int) ≤ (hi : Int) := by omega
    go_wp2
    refine ⟨⟨k + 1, N', congrArg (Value.int .u64) HN.out, ?_, HP.out, .inr (by rw [Nat.add_sub_cancel, ← HI.out]; exact hle)⟩, ?_⟩
    ·rw [HE.out]; simp
    ·simp [intOf]; omega
   ·have hR := part_done h3 hP (by omega) hk
    have HR := Lib.hid hR
    clear hP hk hR
    generalize lo + k * step = i at *
    have hle' : ¬ (i : Int) ≤ (hi : Int) := by omega
    go_wp2
    go_ret
    exact ⟨N, rfl, HR.out, rfl⟩
open Go.RowKit Go.Proofs.YtcjdideliifkhaaGreatDoorW.PrintWords Go.Proofs.YtcjdideliifkhaaGreatDoorW.PrintLast Go.Proofs.YtcjdideliifkhaaGreatDoorW.PrintMore
theorem pieces_none (c : UInt8) : ∀ (a pre : Txt), (∀ x ∈ a, x ≠ c) → pieces c pre a = [pre ++ a] := by
 intro a
 induction a with
 | nil => intro pre _; simp [pieces]
 | cons x a ih =>
  intro pre h
  rw [pieces, if_neg (h x (List.mem_cons_self ..)), ih _ (fun y hy => h y (List.mem_cons_of_mem _ hy))]
  simp
theorem pieces_some (c : UInt8) : ∀ (a pre b : Txt), (∀ x ∈ a, x ≠ c) → pieces c pre (a ++ c :: b) = (pre ++ a) :: pieces c [] b := by
 intro a
 induction a with
 | nil => intro pre b _; simp [pieces]
 | cons x a ih =>
  intro pre b h
  rw [List.cons_append, pieces, if_neg (h x (List.mem_cons_self ..)), ih _ _ (fun y hy => h y (List.mem_cons_of_mem _ hy))]
  simp
theorem first_c (c : UInt8) : ∀ l : Txt, (∀ x ∈ l, x ≠ c) ∨ ∃ a b, l = a ++ c :: b ∧ ∀ x ∈ a, x ≠ c := by
 intro l
 induction l with
 | nil => exact .inl (fun x hx => by simp at hx)
 | cons y l ih =>
  by_cases hy : y = c
  ·subst hy; exact .inr ⟨[], l, rfl, fun x hx => by simp at hx⟩
  ·rcases ih with h | ⟨a, b, rfl, h⟩
   ·exact .inl (fun x hx => by
     rcases List.mem_cons.1 hx with rfl | hx
     ·exact hy
     ·exact h x hx)
   ·exact .inr ⟨y :: a, b, rfl, fun x hx => by
     rcases List.mem_cons.1 hx with rfl | hx
     ·exact hy
     ·exact h x hx⟩
theorem index_l (s : ByteArray) (hs : s.size ≤ 4294967296) (c : UInt8) (p : Nat) (hp : p < s.size → (toL s)[p]? = some c) (hpe : p ≤ s.size) : ∀ (d i : Nat), i + d = p → (∀ j, i ≤ j → j < p → (toL s)[j]? ≠ some c) →
  Ev (fun k => PzzSplit.cron_zzIndex.l0 k s (ofL [c]) (i : Int)) (if p < s.size then (p : Int) else -1) := by
 intro d
 induction d with
 | zero =>
  intro i hi hn
  have hi' : i = p := by omega
  subst hi'
  have hw : wrap64 ((i : Int) + ((ofL [c]).size : Int)) = ((i + 1 : Nat) : Int) := by rw [ofL_size]; unfold wrap64; simp; omega
  by_cases h : i < s.size
  ·rw [if_pos h]
   refine Ev.step (f := fun _ => some (i : Int)) (fun k => ?_) (Ev.now _)
   simp only [PzzSplit.cron_zzIndex.l0]
   have h1 := hp h
   have h2 := List.getElem?_eq_getElem (l := toL s) (i := i) (by rw [toL_len]; exact h)
   rw [h2] at h1
   injection h1 with h1
   rw [hw, if_pos (by omega), if_pos (by omega), if_pos (by omega), Int.toNat_natCast, Int.toNat_natCast, extract_ofL, toList_toL, toList_toL, toL_ofL, toL_ofL,
    if_pos (by rw [List.take_succ_eq_append_getElem (by rw [toL_len]; exact h), List.drop_append_of_le_length (by simp; rw [toL_len]; omega), List.drop_take_self, h1]; rfl)]
  ·rw [if_neg h]
   refine Ev.step (f := fun _ => some (-1)) (fun k => ?_) (Ev.now _)
   simp only [PzzSplit.cron_zzIndex.l0]
   rw [hw, if_neg (by omega)]
 | succ d ih =>
  intro i hi hn
  have h : i < s.size := by omega
  have hw : wrap64 ((i : Int) + ((ofL [c]).size : Int)) = ((i + 1 : Nat) : Int) := by rw [ofL_size]; unfold wrap64; simp; omega
  have hw1 : wrap64 ((i : Int) + 1) = ((i + 1 : Nat) : Int) := by unfold wrap64; omega
  have h2 := List.getElem?_eq_getElem (l := toL s) (i := i) (by rw [toL_len]; exact h)
  have h3 := hn i (Nat.le_refl _) (by omega)
  refine Ev.step (fun k => ?_) (ih (i + 1) (by omega) (fun j h1 h2 => hn j (by omega) h2))
  simp only [PzzSplit.cron_zzIndex.l0]
  rw [hw, if_pos (by omega), if_pos (by omega), if_pos (by omega), Int.toNat_natCast, Int.toNat_natCast, extract_ofL, toList_toL, toList_toL, toL_ofL, toL_ofL,
   if_neg (by
    rw [List.take_succ_eq_append_getElem (by rw [toL_len]; exact h), List.drop_append_of_le_length (by simp; rw [toL_len]; omega), List.drop_take_self]
    intro e
    simp at e
    exact h3 (by rw [h2, e])), hw1]
theorem index_f (s : ByteArray) (hs : s.size ≤ 4294967296) (c : UInt8) :
  ((∀ x ∈ toL s, x ≠ c) ∧ Ev (fun k => PzzSplit.cron_zzIndex.f k s (ofL [c])) (-1)) ∨
  (∃ a b, toL s = a ++ c :: b ∧ (∀ x ∈ a, x ≠ c) ∧ Ev (fun k => PzzSplit.cron_zzIndex.f k s (ofL [c])) (a.length : Int)) := by
 rcases first_c c (toL s) with h | ⟨a, b, hab, h⟩
 ·refine .inl ⟨h, ?_⟩
  have := index_l s hs c s.size (fun h => absurd h (Nat.lt_irrefl _)) (Nat.le_refl _) s.size 0 (by omega) (fun j _ h2 e => h c (List.mem_of_getElem? e) rfl)
  rw [if_neg (Nat.lt_irrefl _)] at this
  exact this
 ·refine .inr ⟨a, b, hab, h, ?_⟩
  have hl : a.length < s.size := by have := congrArg List.length hab; rw [toL_len] at this; simp at this; omega
  have := index_l s hs c a.length (fun _ => by rw [hab]; simp) (by omega) a.length 0 (by omega) (fun j _ h2 e => by
   rw [hab, List.getElem?_append_left h2] at e
   exact h c (List.mem_of_getElem? e) rfl)
  rw [if_pos hl] at this
  exact this
theorem split_l (c : UInt8) : ∀ (n : Nat) (s : ByteArray) (acc : List ByteArray), s.size ≤ n → s.size ≤ 4294967296 → acc.length + s.size ≤ 8589934592 →
  Ev (fun k => PzzSplit.cron_zzSplit.l0 k s (ofL [c]) acc) (acc ++ (pieces c [] (toL s)).map ofL) := by
 intro n
 induction n with
 | zero =>
  intro s acc hn hs ha
  have h0 : toL s = [] := List.eq_nil_of_length_eq_zero (by rw [toL_len]; omega)
  rcases index_f s hs c with ⟨h1, h2⟩ | ⟨a, b, h1, _⟩
  ·rw [pieces_none c _ _ h1, List.nil_append]
   refine Ev.step (fun k => ?_) (Ev.bind (g := fun k => PzzSplit.cron_zzIndex.f k s (ofL [c])) (f := fun k t101 => (if t101 < 0 then (if acc.length < 8796093022208 then (some (acc ++ [s])) else (none)) else (if 0 ≤ t101 then (if t101 ≤ (s.size : Int) then (if acc.length < 8796093022208 then (if 0 ≤ (wrap64 (t101 + ((ofL [c]).size : Int))) then (if (wrap64 (t101 + ((ofL [c]).size : Int))) ≤ (s.size : Int) then (PzzSplit.cron_zzSplit.l0 k (s.extract ((wrap64 (t101 + ((ofL [c]).size : Int))) : Int).toNat s.size) (ofL [c]) (acc ++ [s.extract 0 (t101 : Int).toNat])) else (none)) else (none)) else (none)) else (none)) else (none)))) h2 (Ev.congr (f := fun _ => some (acc ++ [ofL (toL s)])) (fun k => ?_) (Ev.now _)))
   ·simp only [PzzSplit.cron_zzSplit.l0]
   ·rw [if_pos (by decide), if_pos (by omega)]; rfl
  ·rw [h0] at h1
   cases a <;> cases h1
 | succ n ih =>
  intro s acc hn hs ha
  rcases index_f s hs c with ⟨h1, h2⟩ | ⟨a, b, hab, h1, h2⟩
  ·rw [pieces_none c _ _ h1, List.nil_append]
   refine Ev.step (fun k => ?_) (Ev.bind (g := fun k => PzzSplit.cron_zzIndex.f k s (ofL [c])) (f := fun k t101 => (if t101 < 0 then (if acc.length < 8796093022208 then (some (acc ++ [s])) else (none)) else (if 0 ≤ t101 then (if t101 ≤ (s.size : Int) then (if acc.length < 8796093022208 then (if 0 ≤ (wrap64 (t101 + ((ofL [c]).size : Int))) then (if (wrap64 (t101 + ((ofL [c]).size : Int))) ≤ (s.size : Int) then (PzzSplit.cron_zzSplit.l0 k (s.extract ((wrap64 (t101 + ((ofL [c]).size : Int))) : Int).toNat s.size) (ofL [c]) (acc ++ [s.extract 0 (t101 : Int).toNat])) else (none)) else (none)) else (none)) else (none)) else (none)))) h2 (Ev.congr (f := fun _ => some (acc ++ [ofL (toL s)])) (fun k => ?_) (Ev.now _)))
   ·simp only [PzzSplit.cron_zzSplit.l0]
   ·rw [if_pos (by decide), if_pos (by omega)]; rfl
  ·have hl : a.length + b.length + 1 = s.size := by have := congrArg List.length hab; rw [toL_len] at this; simp at this; omega
   have hw : wrap64 ((a.length : Int) + ((ofL [c]).size : Int)) = ((a.length + 1 : Nat) : Int) := by rw [ofL_size]; unfold wrap64; simp; omega
   have e1 : s.extract 0 a.length = ofL a := by rw [extract_ofL, hab]; simp
   have e2 : s.extract (a.length + 1) s.size = ofL b := by
    rw [extract_ofL, List.take_of_length_le (by rw [toL_len]; exact Nat.le_refl _), hab]
    simp
   rw [hab, pieces_some c a [] b h1, List.nil_append, List.map_cons]
   have hnext := ih (ofL b) (acc ++ [ofL a]) (by rw [ofL_size]; omega) (by rw [ofL_size]; omega) (by rw [ofL_size]; simp; omega)
   rw [toL_ofL, List.append_assoc, List.singleton_append] at hnext
   refine Ev.step (fun k => ?_) (Ev.bind (g := fun k => PzzSplit.cron_zzIndex.f k s (ofL [c])) (f := fun k t101 => (if t101 < 0 then (if acc.length < 8796093022208 then (some (acc ++ [s])) else (none)) else (if 0 ≤ t101 then (if t101 ≤ (s.size : Int) then (if acc.length < 8796093022208 then (if 0 ≤ (wrap64 (t101 + ((ofL [c]).size : Int))) then (if (wrap64 (t101 + ((ofL [c]).size : Int))) ≤ (s.size : Int) then (PzzSplit.cron_zzSplit.l0 k (s.extract ((wrap64 (t101 + ((ofL [c]).size : Int))) : Int).toNat s.size) (ofL [c]) (acc ++ [s.extract 0 (t101 : Int).toNat])) else (none)) else (none)) else (none)) else (none)) else (none)))) h2 (Ev.congr (fun k => ?_) hnext))
   ·simp only [PzzSplit.cron_zzSplit.l0]
   ·rw [if_neg (by omega), if_pos (by omega), if_pos (by omega), if_pos (by omega), hw, if_pos (by omega), if_pos (by omega), Int.toNat_natCast, Int.toNat_natCast, e1, e2]
theorem split_f (c : UInt8) (s : ByteArray) (hs : s.size ≤ 4294967296) : Ev (fun k => PzzSplit.cron_zzSplit.f k s (ofL [c])) ((pieces c [] (toL s)).map ofL) := by
 have := split_l c s.size s [] (Nat.le_refl _) hs (by simp; omega)
 rw [List.nil_append] at this
 exact this
theorem split_c (c : UInt8) (s : ByteArray) (hs : s.size ≤ 4294967296) (w : World) :
  Calls Tryz.prog 122 #[.string s, .string (ofL [c])] w fun e w' => ∃ v, e = .returned v ∧ Strs w' v ((pieces c [] (toL s)).map ofL) ∧ Below w.heap.size w w' := by
 obtain ⟨k, hk⟩ := (split_f c s hs).rounds
 refine (PzzSplit.cron_zzSplit.calls k s (ofL [c]) _ w hk).mono ?_
 rintro e w' ⟨v, rfl, h1, h2⟩
 exact ⟨v, rfl, Strs.ofK h1, h2⟩
end Go.Proofs.YtcjdideliifkhaaGreatDoor
