import Derived.Test.YtcjdideliifkhaaGreatDoorB34
set_option maxRecDepth 100000
set_option maxHeartbeats 16000000
namespace Go.Proofs.YtcjdideliifkhaaGreatDoor
open Go.RowKit Go.Proofs.YtcjdideliifkhaaGreatDoorW.PrintWords Go.Proofs.YtcjdideliifkhaaGreatDoorW.PrintLast Go.Proofs.YtcjdideliifkhaaGreatDoorW.PrintMore PFnCronTextAfterAnywhere
set_option linter.unusedVariables false
set_option linter.unusedSimpArgs false
theorem head_digits (s : ByteArray) (ds : Txt) (hds : (toL s).takeWhile dig = ds) :
  (∀ i, i < ds.length → ∃ h : i < s.size, dig (s[i]'h) = true ∧ ds.take (i + 1) = ds.take i ++ [s[i]'h]) ∧ ds.length ≤ s.size ∧ (∀ h : ds.length < s.size, dig (s[ds.length]'h) = false) ∧ s.extract ds.length s.size = ofL ((toL s).dropWhile dig) := by
 obtain ⟨h1, h2, h3⟩ := tw_take dig (toL s)
 have h4 := tw_all dig (toL s)
 rw [hds] at h1 h2 h3 h4
 rw [toL_len] at h3
 refine ⟨fun i hi => ?_, h3, fun h => ?_, ?_⟩
 ·have hlt : i < s.size := by omega
  have hl : i < (toL s).length := by rw [toL_len]; exact hlt
  have e : (toL s)[i]'hl = s[i]'hlt := rfl
  have h5 : ds.take (i + 1) = ds.take i ++ [s[i]'hlt] := by
   rw [← h1, List.take_take, List.take_take, Nat.min_eq_left (by omega), Nat.min_eq_left (by omega), List.take_succ_eq_append_getElem hl, e]
  refine ⟨hlt, h4 _ ?_, h5⟩
  have : s[i]'hlt ∈ ds.take (i + 1) := by rw [h5]; simp
  exact List.mem_of_mem_take this
 ·have := byte_at s _ h
  rw [h2] at this
  have hd := List.head?_dropWhile_not dig (toL s)
  rw [this] at hd
  simpa using hd
 ·rw [extract_ofL, List.take_of_length_le (by rw [toL_len]; exact Nat.le_refl _), h2]
def LiL (ds : Txt) (v2 v5 : Value) : Prop := ∃ i : Nat, v5 = .int .i64 (i : Int) ∧ i ≤ ds.length ∧ v2 = .int .u64 (val (ds.take i) : Nat)
theorem leadingInt_c (s : ByteArray) (hs : s.size ≤ 4294967296) (ds : Txt) (hds : (toL s).takeWhile dig = ds) (h15 : ds.length ≤ 15) (w : World) :
  Calls Tryz.prog 118 #[.string s] w fun e w' => e = .returned (.tuple #[.int .u64 (val ds : Nat), .string (ofL ((toL s).dropWhile dig)), .nilIface]) ∧ Below w.heap.size w w' := by
 obtain ⟨hd1, hd2, hd3, hd4⟩ := head_digits s ds hds
 have hall := tw_all dig (toL s)
 rw [hds] at hall
 have HD1 := Lib.hid hd1
 have HD3 := Lib.hid hd3
 have HD4 := Lib.hid hd4
 have HAL := Lib.hid hall
 clear hd1 hd3 hd4 hall hds
 go_enter Tryz.func118, Tryz.ntmps118
 go_wp2
 go_loopw [2, 5] (fun v2 v5 wr => LiL ds v2 v5 ∧ wr = w) (fun _ v5 _ => (ds.length - (intOf v5).toNat))
 case atStart => exact ⟨⟨0, rfl, Nat.zero_le _, rfl⟩, rfl⟩
 case round =>
  obtain ⟨⟨i, rfl, hi, rfl⟩, rfl⟩ := hrel
  by_cases hlt : i < ds.length
  ·obtain ⟨hlt2, hdg, htk⟩ := HD1.out i hlt
   have hr := dig_rng hdg
   have hv : val (ds.take i) < 10 ^ (ds.take i).length := val_lt _ (fun c hc => HAL.out c (List.mem_of_mem_take hc))
   have hv2 : 10 ^ (ds.take i).length ≤ 10 ^ 14 := Nat.pow_le_pow_right (by decide) (by rw [List.length_take]; omega)
   have hv3 : val (ds.take (i + 1)) = 10 * val (ds.take i) + (s[i].toNat - 48) := by rw [htk]; exact val_snoc _ _
   have HV3 := Lib.hid hv3
   clear htk hv3
   generalize val (ds.take i) = x at *
   have hx : x < 100000000000000 := by omega
   have c1 : decide ((s[i].toNat : Int) < 48) = false := by simp; omega
   have c2 : decide ((57 : Int) < s[i].toNat) = false := by simp; omega
   have c3 : decide ((922337203685477580 : Int) < (x : Int)) = false := by simp; omega
   clear hv hv2
   go_wp2
   exact ⟨⟨⟨i + 1, by simp, by omega, by rw [HV3.out]; congr 1; omega⟩, trivial⟩, by simp [intOf]; omega⟩
  ·obtain rfl : i = ds.length := by omega
   rw [List.take_length]
   by_cases hend : ds.length < s.size
   ·have hnd := HD3.out hend
    have hc : s[ds.length].toNat < 48 ∨ (48 ≤ s[ds.length].toNat ∧ 57 < s[ds.length].toNat) := by
     unfold dig at hnd; simp at hnd; omega
    rcases hc with hc | ⟨hc, hc'⟩
    ·have c1 : decide ((s[ds.length].toNat : Int) < 48) = true := by simp; omega
     go_wp2
     go_quiet (fail)
     go_wp2
     exact bodyPost_ret (v := .tuple #[.int .u64 (val ds : Nat), .string (s.extract ds.length s.size), .nilIface]) (by simp [results, Tryz.results118, go_sem]) rfl ⟨by rw [HD4.out], pw_below_drewN (Below.refl _ _) _⟩
    ·have c1 : decide ((s[ds.length].toNat : Int) < 48) = false := by simp; omega
     have c2 : decide ((57 : Int) < s[ds.length].toNat) = true := by simp; omega
     go_wp2
     go_quiet (fail)
     go_wp2
     exact bodyPost_ret (v := .tuple #[.int .u64 (val ds : Nat), .string (s.extract ds.length s.size), .nilIface]) (by simp [results, Tryz.results118, go_sem]) rfl ⟨by rw [HD4.out], pw_below_drewN (Below.refl _ _) _⟩
   ·go_wp2
    go_quiet (fail)
    go_wp2
    exact bodyPost_ret (v := .tuple #[.int .u64 (val ds : Nat), .string (s.extract ds.length s.size), .nilIface]) (by simp [results, Tryz.results118, go_sem]) rfl ⟨by rw [HD4.out], pw_below_drewN (Below.refl _ _) _⟩
def LfL (ds : Txt) (v2 v3 v5 v6 : Value) : Prop := ∃ i : Nat, v5 = .int .i64 (i : Int) ∧ i ≤ ds.length ∧ v2 = .int .u64 (val (ds.take i) : Nat) ∧ v3 = .float .f64 (Flo.W (10 ^ i)) ∧ v6 = .bool false
theorem leadingFraction_c (s : ByteArray) (hs : s.size ≤ 4294967296) (ds : Txt) (hds : (toL s).takeWhile dig = ds) (h11 : ds.length ≤ 11) (w : World) :
  Calls Tryz.prog 119 #[.string s] w fun e w' => e = .returned (.tuple #[.int .u64 (val ds : Nat), .float .f64 (Flo.W (10 ^ ds.length)), .string (ofL ((toL s).dropWhile dig))]) ∧ Below w.heap.size w w' := by
 obtain ⟨hd1, hd2, hd3, hd4⟩ := head_digits s ds hds
 have hall := tw_all dig (toL s)
 rw [hds] at hall
 have HD1 := Lib.hid hd1
 have HD3 := Lib.hid hd3
 have HD4 := Lib.hid hd4
 have HAL := Lib.hid hall
 have h1 := Flo.W_one
 clear hd1 hd3 hd4 hall hds
 go_enter Tryz.func119, Tryz.ntmps119
 go_wp2
 go_loopw [2, 3, 5, 6] (fun v2 v3 v5 v6 wr => LfL ds v2 v3 v5 v6 ∧ wr = w) (fun _ _ v5 _ _ => (ds.length - (intOf v5).toNat))
 case atStart => exact ⟨⟨0, rfl, Nat.zero_le _, rfl, by rw [← h1], rfl⟩, rfl⟩
 case round =>
  obtain ⟨⟨i, rfl, hi, rfl, rfl, rfl⟩, rfl⟩ := hrel
  by_cases hlt : i < ds.length
  ·obtain ⟨hlt2, hdg, htk⟩ := HD1.out i hlt
   have hr := dig_rng hdg
   have hv : val (ds.take i) < 10 ^ (ds.take i).length := val_lt _ (fun c hc => HAL.out c (List.mem_of_mem_take hc))
   have hv2 : 10 ^ (ds.take i).length ≤ 10 ^ 10 := Nat.pow_le_pow_right (by decide) (by rw [List.length_take]; omega)
   have hv3 : val (ds.take (i + 1)) = 10 * val (ds.take i) + (s[i].toNat - 48) := by rw [htk]; exact val_snoc _ _
   have hp : 10 ^ (i + 1) ≤ 10 ^ 11 := Nat.pow_le_pow_right (by decide) (by omega)
   have hp0 : 0 < 10 ^ i := Nat.pow_pos (by decide)
   have hmul : floatBits .mul .f64 (Flo.W (10 ^ i)) 4621819117588971520 = some (Flo.W (10 ^ (i + 1))) := by
    rw [← Flo.W_ten, Nat.pow_succ]
    rw [Nat.pow_succ] at hp
    exact Flo.mul_bits _ _ (by omega) (by decide) (by omega)
   have HV3 := Lib.hid hv3
   have hmr := run_float_arith (P := Tryz.prog) wr .mul 210 .f64 _ _ _ hmul
   clear htk hv3 hp hp0 hmul
   generalize val (ds.take i) = x at *
   generalize Flo.W (10 ^ i) = sc at *
   have hx : x < 100000000000000 := by omega
   have c1 : decide ((s[i].toNat : Int) < 48) = false := by simp; omega
   have c2 : decide ((57 : Int) < s[i].toNat) = false := by simp; omega
   have c3 : decide ((922337203685477580 : Int) < (x : Int)) = false := by simp; omega
   clear hv hv2
   go_wp2
   exact ⟨⟨⟨i + 1, by simp, by omega, by rw [HV3.out]; congr 1; omega, rfl, rfl⟩, trivial⟩, by simp [intOf]; omega⟩
  ·obtain rfl : i = ds.length := by omega
   rw [List.take_length]
   by_cases hend : ds.length < s.size
   ·have hnd := HD3.out hend
    have hc : s[ds.length].toNat < 48 ∨ (48 ≤ s[ds.length].toNat ∧ 57 < s[ds.length].toNat) := by
     unfold dig at hnd; simp at hnd; omega
    rcases hc with hc | ⟨hc, hc'⟩
    ·have c1 : decide ((s[ds.length].toNat : Int) < 48) = true := by simp; omega
     go_wp2
     go_quiet (fail)
     go_wp2
     exact bodyPost_ret (v := .tuple #[.int .u64 (val ds : Nat), .float .f64 (Flo.W (10 ^ ds.length)), .string (s.extract ds.length s.size)]) (by simp [results, Tryz.results119, go_sem]) rfl ⟨by rw [HD4.out], pw_below_drewN (Below.refl _ _) _⟩
    ·have c1 : decide ((s[ds.length].toNat : Int) < 48) = false := by simp; omega
     have c2 : decide ((57 : Int) < s[ds.length].toNat) = true := by simp; omega
     go_wp2
     go_quiet (fail)
     go_wp2
     exact bodyPost_ret (v := .tuple #[.int .u64 (val ds : Nat), .float .f64 (Flo.W (10 ^ ds.length)), .string (s.extract ds.length s.size)]) (by simp [results, Tryz.results119, go_sem]) rfl ⟨by rw [HD4.out], pw_below_drewN (Below.refl _ _) _⟩
   ·go_wp2
    go_quiet (fail)
    go_wp2
    exact bodyPost_ret (v := .tuple #[.int .u64 (val ds : Nat), .float .f64 (Flo.W (10 ^ ds.length)), .string (s.extract ds.length s.size)]) (by simp [results, Tryz.results119, go_sem]) rfl ⟨by rw [HD4.out], pw_below_drewN (Below.refl _ _) _⟩
open Go.RowKit Go.Maps Go.Proofs.YtcjdideliifkhaaGreatDoorW.PrintWords Go.Proofs.YtcjdideliifkhaaGreatDoorW.PrintLast Go.Proofs.YtcjdideliifkhaaGreatDoorW.PrintMore PFnCronTextAfterAnywhere
theorem zero57 (w : World) : (zeroValue 57).run Tryz.prog w = .ok (.int .u64 0) w := by kernel_rfl
theorem unit_row {u : Txt} (h : 0 < (unitL u).1) : lookF unitsF u = some ((unitL u).1 : Int) ∧ u ≠ [] ∧ u.length ≤ 3 ∧ ((unitL u).1, (unitL u).2) ∈ [(1, 0), (1000, 3), (1000000, 6), (1000000000, 9), (60000000000, 10), (3600000000000, 11)] ∧ (unitL u).1 ≤ 3600000000000 := by
 have key : ∀ v : Txt, u = v → (lookF unitsF v = some ((unitL v).1 : Int) ∧ v ≠ [] ∧ v.length ≤ 3 ∧ ((unitL v).1, (unitL v).2) ∈ [(1, 0), (1000, 3), (1000000, 6), (1000000000, 9), (60000000000, 10), (3600000000000, 11)] ∧ (unitL v).1 ≤ 3600000000000) → (lookF unitsF u = some ((unitL u).1 : Int) ∧ u ≠ [] ∧ u.length ≤ 3 ∧ ((unitL u).1, (unitL u).2) ∈ [(1, 0), (1000, 3), (1000000, 6), (1000000000, 9), (60000000000, 10), (3600000000000, 11)] ∧ (unitL u).1 ≤ 3600000000000) := fun v e hv => by subst e; exact hv
 by_cases h1 : u = [110, 115]
 ·exact key _ h1 (by decide)
 by_cases h2 : u = [117, 115]
 ·exact key _ h2 (by decide)
 by_cases h3 : u = [194, 181, 115]
 ·exact key _ h3 (by decide)
 by_cases h4 : u = [206, 188, 115]
 ·exact key _ h4 (by decide)
 by_cases h5 : u = [109, 115]
 ·exact key _ h5 (by decide)
 by_cases h6 : u = [115]
 ·exact key _ h6 (by decide)
 by_cases h7 : u = [109]
 ·exact key _ h7 (by decide)
 by_cases h8 : u = [104]
 ·exact key _ h8 (by decide)
 unfold unitL at h
 rw [if_neg h1, if_neg h2, if_neg h3, if_neg h4, if_neg h5, if_neg h6, if_neg h7, if_neg h8] at h
 exact absurd h (by decide)
theorem unit_places (s : ByteArray) (u rest : Txt) (hu : u = (toL s).takeWhile inU) (hr : rest = (toL s).dropWhile inU) :
  (∀ i, i < u.length → ∃ h : i < s.size, stopU (s[i]'h) = false) ∧ u.length ≤ s.size ∧ (∀ h : u.length < s.size, stopU (s[u.length]'h) = true) ∧ s.extract u.length s.size = ofL rest ∧ s.extract 0 u.length = ofL u ∧ u.length + rest.length = s.size := by
 obtain ⟨h1, h2, h3⟩ := tw_take inU (toL s)
 have h4 := tw_all inU (toL s)
 rw [← hu] at h1 h2 h3 h4
 rw [← hr] at h2
 rw [toL_len] at h3
 refine ⟨fun i hi => ?_, h3, fun h => ?_, ?_, ?_, ?_⟩
 ·have hlt : i < s.size := by omega
  have hl : i < (toL s).length := by rw [toL_len]; exact hlt
  have e : (toL s)[i]'hl = s[i]'hlt := rfl
  refine ⟨hlt, ?_⟩
  have hm : (toL s)[i]'hl ∈ (toL s).take u.length := by
   rw [List.mem_take_iff_getElem]; exact ⟨i, by omega, rfl⟩
  rw [h1] at hm
  have := h4 _ hm
  rw [e] at this
  simpa [inU] using this
 ·have := byte_at s _ h
  rw [h2, hr] at this
  have hd := List.head?_dropWhile_not inU (toL s)
  rw [this] at hd
  simpa [inU] using hd
 ·rw [extract_ofL, List.take_of_length_le (by rw [toL_len]; exact Nat.le_refl _), h2]
 ·rw [extract_ofL, List.drop_zero, h1]
 ·have := congrArg List.length h2
  rw [List.length_drop, toL_len] at this
  omega
theorem sum_cases {k : Nat} {l : Txt} {S : Nat} (h : SumR k l S) : (l = [] ∧ S = 0) ∨ (l ≠ [] ∧ ∃ k' n rest m, TermR l n rest ∧ SumR k' rest m ∧ S = n + m) := by
 cases k with
 | zero => exact .inl h
 | succ k =>
  rcases h with h | ⟨h1, n, rest, m, h2, h3, h4⟩
  ·exact .inl h
  ·exact .inr ⟨h1, k, n, rest, m, h2, h3, h4⟩
theorem zero_byte {s : ByteArray} {c : UInt8} {t : Txt} (h : toL s = c :: t) : ∃ h0 : 0 < s.size, s[0]'h0 = c := by
 have h0 : 0 < s.size := by
  have := congrArg List.length h
  rw [toL_len] at this; simp at this; omega
 refine ⟨h0, ?_⟩
 have := byte_at s 0 h0
 rw [List.drop_zero, h] at this
 injection this with h1 _
 exact h1.symm
structure Term (sb : ByteArray) (n : Nat) (rest ds fs u : Txt) (sc sd : ByteArray) : Prop where
 hds : (toL sb).takeWhile dig = ds
 hsc : ofL ((toL sb).dropWhile dig) = sc
 d15 : ds.length ≤ 15
 len : ds.length + sc.size = sb.size
 hu : u = (toL sd).takeWhile inU
 hrest : rest = (toL sd).dropWhile inU
 fl : fs.length ≤ (unitL u).2
 pos : 0 < (unitL u).1
 most : val ds + 1 ≤ 4611686018427387904 / (unitL u).1
 hn : n = val ds * (unitL u).1 + val fs * ((unitL u).1 / 10 ^ fs.length)
 fv : val fs < 10 ^ fs.length
def Dot (sc sd : ByteArray) (fs : Txt) : Prop := (∃ h : 0 < sc.size, (sc[0]'h).toNat = 46) ∧ (toL (sc.extract 1 sc.size)).takeWhile dig = fs ∧ ofL ((toL (sc.extract 1 sc.size)).dropWhile dig) = sd ∧ fs.length + sd.size + 1 = sc.size
def NoDot (sc sd : ByteArray) (fs : Txt) : Prop := (∃ h : 0 < sc.size, (sc[0]'h).toNat ≠ 46) ∧ fs = [] ∧ sd = sc
theorem term_parts (sb : ByteArray) (n : Nat) (rest : Txt) (h : TermR (toL sb) n rest) :
  ∃ (ds fs u : Txt) (sc sd : ByteArray), Term sb n rest ds fs u sc sd ∧
   ((∃ h : 0 < sb.size, dig (sb[0]'h) = true ∧ ds ≠ [] ∧ (Dot sc sd fs ∨ NoDot sc sd fs)) ∨ (∃ h : 0 < sb.size, (sb[0]'h).toNat = 46 ∧ ds = [] ∧ fs ≠ [] ∧ Dot sc sd fs)) := by
 obtain ⟨ds, fs, u, h1, h2, h3, h4, h5, h6, h7, h8, h9, h10⟩ := h
 obtain ⟨g1, g2, g3⟩ := tw_take dig (toL sb)
 have g4 := tw_all dig (toL sb)
 rw [← h1] at g1 g2 g3 g4
 have hu := (unit_row h8).2.1
 cases hl1 : (toL sb).dropWhile dig with
 | nil => rw [hl1] at h3; exact absurd h3 hu
 | cons c t =>
  rw [hl1] at h2 h3 h4
  have hsc : toL (ofL (c :: t)) = c :: t := toL_ofL _
  obtain ⟨z0, z1⟩ := zero_byte hsc
  have hsz : (ofL (c :: t)).size = t.length + 1 := by rw [ofL_size]; rfl
  have hlen : ds.length + (ofL (c :: t)).size = sb.size := by
   have := congrArg List.length (List.takeWhile_append_dropWhile (p := dig) (l := toL sb))
   rw [List.length_append, ← h1, hl1, toL_len] at this
   rw [ofL_size]; exact this
  have hex : (ofL (c :: t)).extract 1 (ofL (c :: t)).size = ofL t := ext_all hsc
  have hdot : c.toNat = 46 → ∃ sd, Term sb n rest ds fs u (ofL (c :: t)) sd ∧ Dot (ofL (c :: t)) sd fs := fun hc => by
   have e2 : fs = t.takeWhile dig := by rw [h2]; show (if c.toNat = 46 then _ else _) = _; rw [if_pos hc]
   have e3 : aftF (c :: t) = t.dropWhile dig := by show (if c.toNat = 46 then _ else _) = _; rw [if_pos hc]
   rw [e3] at h3 h4
   refine ⟨ofL (t.dropWhile dig), ⟨h1.symm, by rw [hl1], h5, hlen, by rw [toL_ofL]; exact h3, by rw [toL_ofL]; exact h4, h7, h8, h9, h10, val_lt _ (by rw [e2]; exact tw_all dig t)⟩, ⟨z0, by rw [z1]; exact hc⟩, by rw [hex, toL_ofL, ← e2], by rw [hex, toL_ofL], ?_⟩
   have := congrArg List.length (List.takeWhile_append_dropWhile (p := dig) (l := t))
   rw [List.length_append, ← e2] at this
   rw [hsz, ofL_size]; omega
  by_cases hds : ds = []
  ·have hfs : fs ≠ [] := by rcases h6 with h | h; exact absurd hds h; exact h
   have hc : c.toNat = 46 := by
    by_cases hc : c.toNat = 46
    ·exact hc
    ·exfalso; apply hfs; rw [h2]; show (if c.toNat = 46 then _ else _) = _; rw [if_neg hc]
   obtain ⟨sd, hT, hD⟩ := hdot hc
   have hsb : toL sb = c :: t := by
    have := List.takeWhile_append_dropWhile (p := dig) (l := toL sb)
    rw [← h1, hds, hl1] at this
    exact this.symm
   obtain ⟨y0, y1⟩ := zero_byte hsb
   exact ⟨ds, fs, u, _, sd, hT, .inr ⟨y0, by rw [y1]; exact hc, hds, hfs, hD⟩⟩
  ·obtain ⟨x, ds', rfl⟩ := List.exists_cons_of_ne_nil hds
   have hsb : toL sb = x :: (ds' ++ c :: t) := by
    have := List.takeWhile_append_dropWhile (p := dig) (l := toL sb)
    rw [← h1, hl1] at this
    exact this.symm
   obtain ⟨y0, y1⟩ := zero_byte hsb
   have hdx : dig (sb[0]'y0) = true := by rw [y1]; exact g4 x (List.mem_cons_self ..)
   by_cases hc : c.toNat = 46
   ·obtain ⟨sd, hT, hD⟩ := hdot hc
    exact ⟨_, fs, u, _, sd, hT, .inl ⟨y0, hdx, hds, .inl hD⟩⟩
   ·have e2 : fs = [] := by rw [h2]; show (if c.toNat = 46 then _ else _) = _; rw [if_neg hc]
    have e3 : aftF (c :: t) = c :: t := by show (if c.toNat = 46 then _ else _) = _; rw [if_neg hc]
    rw [e3] at h3 h4
    exact ⟨_, fs, u, _, ofL (c :: t), ⟨h1.symm, by rw [hl1], h5, hlen, by rw [hsc]; exact h3, by rw [hsc]; exact h4, h7, h8, h9, h10, by rw [e2]; decide⟩, .inl ⟨y0, hdx, hds, .inr ⟨⟨z0, by rw [z1]; exact hc⟩, e2, rfl⟩⟩⟩
theorem exec_quo (ρ : Operand → Value) (op : Oper) (x y : Operand) (R : TypeId) (ho : op.op = .binOp .quo 57 x y R) (U V : Nat) (hx : ρ x = .int .u64 9223372036854775808) (hy : ρ y = .int .u64 (U : Int)) (hU : 0 < U) (h : V + 1 ≤ 4611686018427387904 / U) (w : World) :
  ∃ Q : Nat, (execOp ρ op).run Tryz.prog w = .ok (.value (.int .u64 (Q : Int))) w ∧ decide (Q < V) = false := by
 refine ⟨9223372036854775808 / U, ?_, ?_⟩
 ·have hU' : ¬ (U : Int) = 0 := by omega
  have e : Int.tdiv (9223372036854775808 : Int) (U : Int) = ((9223372036854775808 / U : Nat) : Int) := by
   rw [Int.tdiv_eq_ediv_of_nonneg (by decide)]; simp
  have hlt : ((9223372036854775808 / U : Nat) : Int) < 18446744073709551616 := by
   have := Nat.div_le_self 9223372036854775808 U
   generalize 9223372036854775808 / U = q at *
   omega
  have hw : IntKind.u64.wrap ((9223372036854775808 / U : Nat) : Int) = ((9223372036854775808 / U : Nat) : Int) := wraps_u64 _ (Int.natCast_nonneg _) hlt
  have h1 : (binOp .quo 57 (.int .u64 9223372036854775808) (.int .u64 (U : Int))).run Tryz.prog w = .ok (.int .u64 ((9223372036854775808 / U : Nat) : Int)) w := by
   rw [binOp_quo]
   unfold Op.intDiv
   rw [if_neg hU']
   simp only [e, hw]
   rfl
  simp [execOp, ho, hx, hy, eqGuard_quo, h1, go_sem]
  rw [if_neg (by omega), e, hw]
  simp
 ·have h2 : 4611686018427387904 / U ≤ 9223372036854775808 / U := Nat.div_le_div_right (by decide)
  generalize 4611686018427387904 / U = a at *
  generalize 9223372036854775808 / U = b at *
  simp; omega
theorem wpList_quo {ops : Array Oper} {rest : List Oper} {op : Oper} {a : Act} {w : World} {K : Exit → Act → World → Prop} (U V : Nat) (hU : 0 < U) (h : V * U + U ≤ 4611686018427387904) (hgd : op.guard = none) (x y : Operand) (R : TypeId) (ho : op.op = .binOp .quo 57 x y R) (hx : a.eval x = .int .u64 9223372036854775808) (hy : a.eval y = .int .u64 (U : Int))
  (hc : ∀ Q : Nat, decide (Q < V) = false → wpList Tryz.prog ops K rest (a.put op.dst (.int .u64 (Q : Int))) w) : wpList Tryz.prog ops K (op :: rest) a w := by
 have h' : V + 1 ≤ 4611686018427387904 / U := (Nat.le_div_iff_mul_le hU).2 (by rw [Nat.add_mul, Nat.one_mul]; exact h)
 obtain ⟨Q, h1, h2⟩ := exec_quo a.eval op x y R ho U V hx hy hU h' w
 exact wpList_exec _ ho hgd _ h1 (hc Q h2)
def DuL (w : World) (S : Nat) (g : Nat) (v0 v5 : Value) (wr : World) : Prop :=
 ∃ (sb : ByteArray) (k m S' : Nat), v0 = .string sb ∧ g = sb.size ∧ v5 = .int .u64 (m : Int) ∧ SumR k (toL sb) S' ∧ m + S' = S ∧ sb.size ≤ 4294967296 ∧ Below w.heap.size w wr
theorem float_facts {u : Txt} {F k : Nat} (hm : ((unitL u).1, (unitL u).2) ∈ [(1, 0), (1000, 3), (1000000, 6), (1000000000, 9), (60000000000, 10), (3600000000000, 11)]) (hk : k ≤ (unitL u).2) (hU : (unitL u).1 ≤ 3600000000000) (hU0 : 0 < (unitL u).1) (hF : F < 10 ^ k) (hF0 : F ≠ 0) :
  floatBits .quo .f64 (Flo.W (unitL u).1) (Flo.W (10 ^ k)) = some (Flo.W ((unitL u).1 / 10 ^ k)) ∧
  floatBits .mul .f64 (Flo.W F) (Flo.W ((unitL u).1 / 10 ^ k)) = some (Flo.W (F * ((unitL u).1 / 10 ^ k))) ∧
  floatToIntVal .f64 (Flo.W (F * ((unitL u).1 / 10 ^ k))) .u64 = some ((F * ((unitL u).1 / 10 ^ k) : Nat) : Int) ∧ F * ((unitL u).1 / 10 ^ k) ≤ (unitL u).1 := by
 obtain ⟨h1, h2⟩ := Flo.quo_bits hm hk
 have hp : 0 < 10 ^ k := Nat.pow_pos (by decide)
 have hle : F * ((unitL u).1 / 10 ^ k) ≤ (unitL u).1 := by
  have h3 : F * ((unitL u).1 / 10 ^ k) ≤ 10 ^ k * ((unitL u).1 / 10 ^ k) := Nat.mul_le_mul_right _ (by omega)
  exact Nat.le_trans h3 (Nat.mul_div_le _ _)
 have hdvd : 10 ^ k ∣ (unitL u).1 := Nat.dvd_of_mod_eq_zero h2
 have hq : (unitL u).1 / 10 ^ k ≠ 0 := by
  have := Nat.div_pos (Nat.le_of_dvd hU0 hdvd) hp
  omega
 have hne : F * ((unitL u).1 / 10 ^ k) ≠ 0 := Nat.mul_ne_zero hF0 hq
 exact ⟨h1, Flo.mul_bits _ _ hF0 hq (by omega), Flo.toInt_bits _ hne (by omega), hle⟩
theorem mul_le {V U : Nat} (hU : 0 < U) (h : V + 1 ≤ 4611686018427387904 / U) : V * U + U ≤ 4611686018427387904 := by
 have h1 : (V + 1) * U ≤ 4611686018427387904 := Nat.le_trans (Nat.mul_le_mul_right _ h) (Nat.div_mul_le_self _ _)
 rw [Nat.add_mul, Nat.one_mul] at h1
 exact h1
theorem parseDuration_c (s : ByteArray) (hs : s.size ≤ 4294967296) (d : Int) (hd : DurR (toL s) d) (w : World) :
  Calls Tryz.prog 90 #[.string s] w fun e w' => e = .returned (.tuple #[.int .i64 d, .nilIface]) ∧ Below w.heap.size w w' := by
 obtain ⟨neg, t, hsg, ht⟩ := hd
 have HBE := Lib.hid (Below.refl w.heap.size w)
 have htl : t.length ≤ s.size := by
  rcases hsg with ⟨hl, _⟩ | ⟨hl, _⟩ | ⟨hl, _⟩ <;> · have := congrArg List.length hl; rw [toL_len] at this; (try rw [List.length_cons] at this); omega
 have hie : s.toList.isEmpty = false := by
  rw [toList_toL]
  cases hl : toL s with
  | cons _ _ => rfl
  | nil =>
   exfalso
   rcases hsg with ⟨h, _⟩ | ⟨h, _⟩ | ⟨h, _⟩
   ·rw [hl] at h; cases h
   ·rw [hl] at h; cases h
   ·rw [hl] at h; subst h
    rcases ht with ⟨h, _⟩ | ⟨_, h, _⟩
    ·cases h
    ·exact h rfl
 have HSG := Lib.hid hsg
 have HT := Lib.hid ht
 clear hsg ht
 go_enter Tryz.func90, Tryz.ntmps90
 go_upto_if 23 with (fail)
 go_cut [0, 6] (fun v0 v6 wc => v0 = .string (ofL t) ∧ v6 = .bool neg ∧ w = wc)
 case first => as_aux_lemma =>
  rcases HSG.out with ⟨hl, rfl⟩ | ⟨hl, rfl⟩ | ⟨rfl, rfl, h45, h43⟩
  ·obtain ⟨z0, z1⟩ := zero_byte hl
   have hc1 : ((s[0].toNat : Int) == 45) = true := by rw [z1]; rfl
   have HEX := Lib.hid (show s.extract 1 s.size = ofL t from ext_all hl)
   clear hl z1
   go_wp2
   go_meet
   case rel => exact ⟨by rw [HEX.out], rfl, rfl⟩
  ·obtain ⟨z0, z1⟩ := zero_byte hl
   have hc1 : ((s[0].toNat : Int) == 45) = false := by rw [z1]; rfl
   have hc2 : ((s[0].toNat : Int) == 43) = true := by rw [z1]; rfl
   have HEX := Lib.hid (show s.extract 1 s.size = ofL t from ext_all hl)
   clear hl z1
   go_wp2
   go_meet
   case rel => exact ⟨by rw [HEX.out], rfl, rfl⟩
  ·have HX := Lib.hid (ofL_toL s)
   cases hl : toL s with
   | nil =>
    exfalso
    rcases HT.out with ⟨h, _⟩ | ⟨_, h, _⟩
    ·rw [hl] at h; cases h
    ·exact h hl
   | cons c t =>
    obtain ⟨z0, z1⟩ := zero_byte hl
    have hc1 : ((s[0].toNat : Int) == 45) = false := by
     rw [z1]; rw [hl] at h45; have : c ≠ 45 := by simpa using h45
     have h2 : c.toNat ≠ 45 := fun h => this (UInt8.toNat_inj.1 h)
     simp; omega
    have hc2 : ((s[0].toNat : Int) == 43) = false := by
     rw [z1]; rw [hl] at h43; have : c ≠ 43 := by simpa using h43
     have h2 : c.toNat ≠ 43 := fun h => this (UInt8.toNat_inj.1 h)
     simp; omega
    clear hl z1 h45 h43
    go_wp2
    go_meet
    case rel => exact ⟨by rw [HX.out], rfl, rfl⟩
 case rest =>
  obtain ⟨rfl, rfl, rfl⟩ := hcut
  have hts : (ofL t).size ≤ 4294967296 := by rw [ofL_size]; omega
  rcases HT.out with ⟨rfl, rfl⟩ | ⟨ht0, htn, k0, S, hsum, hS, hdv⟩
  ·have he0 : ((ofL [48]).toList == ([48] : List UInt8)) = true := by rw [toList_toL, toL_ofL]; rfl
   clear HSG HT htl
   go_wp2
   go_ret2
   exact ⟨rfl, HBE.out⟩
  ·have he0 : ((ofL t).toList == ([48] : List UInt8)) = false := by rw [toList_toL, toL_ofL]; simpa using ht0
   have he1 : (ofL t).toList.isEmpty = false := by rw [toList_toL, toL_ofL]; cases t with | nil => exact absurd rfl htn | cons _ _ => rfl
   have HST := Lib.hid (show DuL w S (ofL t).size (.string (ofL t)) (.int .u64 0) w from ⟨_, k0, 0, S, rfl, rfl, rfl, by rw [toL_ofL]; exact hsum, by omega, hts, HBE.out⟩)
   have HD := Lib.hid hdv.symm
   clear HSG HT htl ht0 htn hsum hdv hts
   generalize ofL t = st at *
   go_wp2
   go_loopg [0, 5] st.size (fun g v0 v5 wr => DuL w S g v0 v5 wr)
   case atStart => exact HST.out
   case round =>
    obtain ⟨sb, k, m, S', rfl, rfl, rfl, hsum, hm, hsz, hbel⟩ := hrel
    have HBEL := Lib.hid hbel
    clear hbel
    rcases sum_cases hsum with ⟨hnil, rfl⟩ | ⟨hne, k', n, rest, m', hT, hS', rfl⟩
    ·have hn0 : sb.toList.isEmpty = true := by rw [toList_toL, hnil]; rfl
     have hm63 : decide ((9223372036854775807 : Int) < (m : Int)) = false := by simp; omega
     have hml : m ≤ 4611686018427387904 := by omega
     clear hnil hsum
     have HM := Lib.hid hm
     clear hm
     cases neg with
     | true =>
      go_wp2
      go_ret2
      exact ⟨by show Ending.returned (.tuple #[.int .i64 (-(m : Int)), .nilIface]) = _; have h0 : -(m : Int) = d := (by have h1 := HD.out; have h2 := HM.out; simp at h1 h2; omega); rw [h0], HBEL.out⟩
     | false =>
      go_wp2
      go_ret2
      exact ⟨by show Ending.returned (.tuple #[.int .i64 (m : Int), .nilIface]) = _; have h0 : (m : Int) = d := (by have h1 := HD.out; have h2 := HM.out; simp at h1 h2; omega); rw [h0], HBEL.out⟩
    ·clear hsum
     have hn0 : sb.toList.isEmpty = false := by rw [toList_toL]; cases hsb : toL sb with | nil => exact absurd hsb hne | cons _ _ => rfl
     obtain ⟨ds, fs, u, sc, sd, hTm, hways⟩ := term_parts sb n rest hT
     clear hT hne
     obtain ⟨hlk, hune, hul, hmem, hU⟩ := unit_row hTm.pos
     obtain ⟨p1, p2, p3, p4, p5, p6⟩ := unit_places sd u rest hTm.hu hTm.hrest
     have hmx := mul_le hTm.pos hTm.most
     have hn := hTm.hn
     have hlen := hTm.len
     have hpos := hTm.pos
     have HFL := Lib.hid (fun hF0 => float_facts hmem hTm.fl hU hTm.pos hTm.fv hF0)
     have HLI := Lib.hid (fun w => (show Calls Tryz.prog 118 #[.string sb] w fun e w' => e = .returned (.tuple #[.int .u64 (val ds : Nat), .string sc, .nilIface]) ∧ Below w.heap.size w w' from by
      have := leadingInt_c sb hsz ds hTm.hds hTm.d15 w; rw [hTm.hsc] at this; exact this))
     have HLF := Lib.hid (fun (hD : Dot sc sd fs) w => (show Calls Tryz.prog 119 #[.string (sc.extract 1 sc.size)] w fun e w' => e = .returned (.tuple #[.int .u64 (val fs : Nat), .float .f64 (Flo.W (10 ^ fs.length)), .string sd]) ∧ Below w.heap.size w w' from by
      have := leadingFraction_c (sc.extract 1 sc.size) (by rw [ByteArray.size_extract]; omega) fs hD.2.1 (Nat.le_trans hTm.fl (unitL_most u)) w; rw [hD.2.2.1] at this; exact this))
     have hhead : ∃ h : 0 < sb.size, ((sb[0]'h).toNat = 46 ∨ (48 ≤ (sb[0]'h).toNat ∧ (sb[0]'h).toNat ≤ 57)) := by
      rcases hways with ⟨h, h1, _⟩ | ⟨h, h1, _⟩
      ·exact ⟨h, .inr (dig_rng h1)⟩
      ·exact ⟨h, .inl h1⟩
     have hdot : ∃ h : 0 < sc.size, ((sc[0]'h).toNat = 46 ∧ Dot sc sd fs) ∨ ((sc[0]'h).toNat ≠ 46 ∧ fs = [] ∧ sd = sc) := by
      rcases hways with ⟨_, _, _, h | h⟩ | ⟨_, _, _, _, h⟩
      ·exact ⟨h.1.1, .inl ⟨h.1.2, h⟩⟩
      ·exact ⟨h.1.1, .inr ⟨h.1.2, h.2⟩⟩
      ·exact ⟨h.1.1, .inl ⟨h.1.2, h⟩⟩
     have hpp : ds.length ≠ 0 ∨ (ds.length = 0 ∧ fs.length ≠ 0) := by
      rcases hways with ⟨_, _, h, _⟩ | ⟨_, _, h1, h2, _⟩
      ·exact .inl (fun h0 => h (List.eq_nil_of_length_eq_zero h0))
      ·exact .inr ⟨by rw [h1]; rfl, fun h0 => h2 (List.eq_nil_of_length_eq_zero h0)⟩
     have hsdl : sd.size ≤ sc.size ∧ (Dot sc sd fs → fs.length + sd.size + 1 = sc.size) := by
      obtain ⟨_, h | h⟩ := hdot
      ·exact ⟨by have := h.2.2.2.2; omega, fun h => h.2.2.2⟩
      ·exact ⟨by rw [h.2.2]; exact Nat.le_refl _, fun h => h.2.2.2⟩
     obtain ⟨z0, hhead⟩ := hhead
     obtain ⟨y0, hdot⟩ := hdot
     have hsc0 : sc.toList.isEmpty = false := by
      rw [toList_toL]; cases hsb : toL sc with | nil => (have h0 : sc.size = 0 := (by have := congrArg List.length hsb; rw [toL_len] at this; exact this); omega) | cons _ _ => rfl
     have hu0 : u.length ≠ 0 := fun h => hune (List.eq_nil_of_length_eq_zero h)
     have hn2 : n = val ds * (unitL u).1 + val fs * ((unitL u).1 / 10 ^ fs.length) := hn
     clear hn hTm hways hmem
     generalize (unitL u).1 = U at *
     have HLK := Lib.hid hlk
     have HP1 := Lib.hid p1
     have HP3 := Lib.hid p3
     have HP4 := Lib.hid p4
     have HP5 := Lib.hid p5
     have HHD := Lib.hid hhead
     have HDT := Lib.hid hdot
     have HPP := Lib.hid hpp
     have HSD := Lib.hid hsdl
     have HN := Lib.hid hn2
     have HS := Lib.hid hS'
     have HMX := Lib.hid hmx
     clear hlk p1 p3 p4 p5 hhead hdot hpp hsdl hn2 hS' hune hmx
     go_upto_region 17 with (fail)
     go_cut [59] (fun v59 wc => v59 = .bool false ∧ Below w.heap.size w wc)
     case first => as_aux_lemma =>
      rcases HHD.out with h46 | ⟨h1, h2⟩
      ·have hc1 : ((sb[0].toNat : Int) == 46) = true := by rw [h46]; rfl
       clear h46
       go_wp2
       go_meet
       case rel => exact ⟨rfl, HBEL.out⟩
      ·have hc1 : ((sb[0].toNat : Int) == 46) = false := by simp; omega
       have hc2 : decide ((48 : Int) ≤ (sb[0].toNat : Int)) = true := by simp; omega
       have hc3 : decide ((sb[0].toNat : Int) ≤ 57) = true := by simp; omega
       clear h1 h2
       go_wp2
       go_meet
       case rel => exact ⟨rfl, HBEL.out⟩
     case rest =>
      obtain ⟨rfl, hbel⟩ := hcut
      clear HBEL
      have HBEL := Lib.hid hbel
      clear hbel
      obtain ⟨b, hb⟩ : ∃ b, ((sc[0].toNat : Int) == 46) = b := ⟨_, rfl⟩
      obtain ⟨pre, hpre⟩ : ∃ b, ((sb.size : Int) != (sc.size : Int)) = b := ⟨_, rfl⟩
      go_upto_if 88 with (go_at_call 118; refine (HLI.out _).mono ?_; rintro e w1 ⟨rfl, hb1⟩; have HB1 := Lib.hid (below_step HBEL.out hb1); clear hb1)
      have HBB := Lib.hid hb
      have HPRE := Lib.hid hpre
      clear hb hpre
      go_cut [0, 9, 10, 14, 15] (fun v0 v9 v10 v14 v15 wc => v0 = .string sd ∧ v9 = .int .u64 (val fs : Nat) ∧ (val fs ≠ 0 → v10 = .float .f64 (Flo.W (10 ^ fs.length))) ∧ (∃ po, v14 = .bool po ∧ (pre = false → po = true)) ∧ Below w.heap.size w wc)
      case first => as_aux_lemma =>
       cases b with
       | true =>
        have hD : Dot sc sd fs := by
         rcases HDT.out with ⟨_, h⟩ | ⟨h, _⟩
         ·exact h
         ·exact absurd (by have := HBB.out; simp at this; omega) h
        have HL := Lib.hid (HLF.out hD)
        have HDD := Lib.hid (HSD.out.2 hD)
        clear hD
        go_wp2_with (go_at_call 119; refine (HL.out _).mono ?_; rintro e w2 ⟨rfl, hb2⟩; have HB2 := Lib.hid (below_step HB1.out hb2); clear hb2)
        go_meet
        case rel => exact ⟨rfl, rfl, fun _ => rfl, ⟨_, rfl, fun h => (by
         have h1 := HPRE.out; have h2 := HPP.out; have h3 := HDD.out; subst h; simp at h1 ⊢; omega)⟩, HB2.out⟩
       | false =>
        have hD : fs = [] ∧ sd = sc := by
         rcases HDT.out with ⟨h, _⟩ | ⟨_, h⟩
         ·exact absurd h (by have := HBB.out; simp at this; omega)
         ·exact h
        obtain ⟨rfl, rfl⟩ := hD
        go_wp2
        go_meet
        case rel => exact ⟨rfl, rfl, fun h => absurd rfl h, ⟨_, rfl, fun h => (by
         have h1 := HPRE.out; subst h; simp at h1; rcases HPP.out with h2 | ⟨_, h2⟩; (exfalso; omega); exact absurd rfl h2)⟩, HB1.out⟩
      case rest =>
       obtain ⟨rfl, rfl, h10, ⟨po, rfl, hpo⟩, hbel⟩ := hcut
       clear HB1 HBEL
       have HBEL := Lib.hid hbel
       have H10 := Lib.hid h10
       have HPO := Lib.hid hpo
       clear hbel h10 hpo
       go_upto_region 30 with (fail)
       go_cut [108] (fun v108 wc => v108 = .bool false ∧ Below w.heap.size w wc)
       case first => as_aux_lemma =>
        cases pre with
        | true =>
         go_wp2
         go_meet
         case rel => exact ⟨rfl, HBEL.out⟩
        | false =>
         obtain rfl := HPO.out rfl
         go_wp2
         go_meet
         case rel => exact ⟨rfl, HBEL.out⟩
       case rest =>
        obtain ⟨rfl, hbel⟩ := hcut
        clear HBEL
        have HBEL := Lib.hid hbel
        clear hbel
        go_upto_block 2 with (fail)
        go_cut [16, 17] (fun v16 v17 wc => v16 = .int .i64 (u.length : Int) ∧ Below w.heap.size w wc)
        case first => as_aux_lemma =>
         go_wp2
         go_loopg [16] u.length (fun g v16 wx => ∃ i : Nat, v16 = .int .i64 (i : Int) ∧ i ≤ u.length ∧ g = u.length - i ∧ Below w.heap.size w wx)
         case atStart => exact ⟨0, rfl, Nat.zero_le _, rfl, HBEL.out⟩
         case round =>
          obtain ⟨i, rfl, hi, rfl, hbx⟩ := hrel
          have HBX := Lib.hid hbx
          clear hbx
          by_cases hlt : i < u.length
          ·obtain ⟨hlt2, hst⟩ := HP1.out i hlt
           have hc : sd[i].toNat ≠ 46 ∧ (sd[i].toNat < 48 ∨ 57 < sd[i].toNat) := by unfold stopU dig at hst; simp at hst; omega
           have hc1 : ((sd[i].toNat : Int) == 46) = false := by simp; omega
           clear hst
           by_cases h48 : sd[i].toNat < 48
           ·have hc2 : decide ((48 : Int) ≤ (sd[i].toNat : Int)) = false := by simp; omega
            clear hc
            go_wp2
            go_roundg (u.length - (i + 1))
            case measure => omega
            case rel => exact ⟨i + 1, by simp, by omega, rfl, HBX.out⟩
           ·have hc2 : decide ((48 : Int) ≤ (sd[i].toNat : Int)) = true := by simp; omega
            have hc3 : decide ((sd[i].toNat : Int) ≤ 57) = false := by simp; omega
            clear hc
            go_wp2
            go_roundg (u.length - (i + 1))
            case measure => omega
            case rel => exact ⟨i + 1, by simp, by omega, rfl, HBX.out⟩
          ·obtain rfl : i = u.length := by omega
           by_cases hend : u.length < sd.size
           ·have hst := HP3.out hend
            have hc : sd[u.length].toNat = 46 ∨ (sd[u.length].toNat ≠ 46 ∧ 48 ≤ sd[u.length].toNat ∧ sd[u.length].toNat ≤ 57) := by unfold stopU dig at hst; simp at hst; omega
            clear hst
            rcases hc with hc | ⟨h1, h2, h3⟩
            ·have hc1 : ((sd[u.length].toNat : Int) == 46) = true := by rw [hc]; rfl
             clear hc
             go_wp2
             go_meet
             case rel => exact ⟨rfl, HBX.out⟩
            ·have hc1 : ((sd[u.length].toNat : Int) == 46) = false := by simp; omega
             have hc2 : decide ((48 : Int) ≤ (sd[u.length].toNat : Int)) = true := by simp; omega
             have hc3 : decide ((sd[u.length].toNat : Int) ≤ 57) = true := by simp; omega
             clear h1 h2 h3
             go_wp2
             go_meet
             case rel => exact ⟨rfl, HBX.out⟩
           ·go_wp2
            go_meet
            case rel => exact ⟨rfl, HBX.out⟩
        case rest =>
         obtain ⟨rfl, hbel⟩ := hcut
         clear HBEL
         have HBEL := Lib.hid hbel
         clear hbel
         have hneq : ((u.length : Int) == 0) = false := beq_eq_false_iff_ne.2 (by omega)
         have hu32 : u.length ≤ 4294967296 := by omega
         obtain ⟨bf, hbf⟩ : ∃ b, decide (0 < val fs) = b := ⟨_, rfl⟩
         have HLK2 := Lib.hid (fun W bm (hM : MapIs W 57 bm unitsF) => (show (Instr.lookup 216 (.map (some bm)) (.string (sd.extract 0 u.length)) true).run Tryz.prog W = .ok (.tuple #[.int .u64 (U : Int), .bool true]) W from by
          rw [HP5.out]; exact (hM.look Tryz.underlying57 (zero57 _) Tryz.underlying216 u hu32).1 _ HLK.out))
         have hmx := HMX.out
         go_upto_if 171 with (first | (refine wpList_quo U (val ds) hpos HMX.out rfl _ _ _ rfl rfl rfl ?_; intro Q hQ) | (go_at_call 120; refine (unitMap_c _).mono ?_; rintro e w3 ⟨bm, rfl, hM, hb3⟩; have hlook := HLK2.out _ _ hM; have HB3 := Lib.hid (below_step HBEL.out hb3); clear hM hb3))
         have HBF := Lib.hid hbf
         clear hbf hlook hQ
         go_cut [8] (fun v8 wc => v8 = .int .u64 (n : Int) ∧ Below w.heap.size w wc)
         case first => as_aux_lemma =>
          cases bf with
          | false =>
           have hv0 : val fs = 0 := by have := of_decide_eq_false HBF.out; omega
           have hnn : n = val ds * U := by rw [HN.out, hv0]; simp
           have HNN := Lib.hid hnn
           clear hv0 hnn
           go_wp2
           go_meet
           case rel => exact ⟨by rw [HNN.out]; simp, HB3.out⟩
          | true =>
           have hv0 : val fs ≠ 0 := by have := of_decide_eq_true HBF.out; omega
           obtain ⟨q1, q2, q3, q4⟩ := HFL.out hv0
           have h10 := H10.out hv0
           subst h10
           rw [← Flo.ofInt_W U] at q1
           rw [← Flo.ofInt_W (val fs)] at q2
           have hnn := HN.out
           generalize val fs * (U / 10 ^ fs.length) = G at *
           have r1 := run_float_arith (P := Tryz.prog) w3 .quo 210 .f64 _ _ _ q1
           have r2 := run_float_arith (P := Tryz.prog) w3 .mul 210 .f64 _ _ _ q2
           have r3 := run_convert_float_int (P := Tryz.prog) w3 210 57 .f64 .u64 _ _ (by rfl) Tryz.underlying57 q3
           have HNN := Lib.hid hnn
           clear q1 q2 q3 hnn
           go_wp2
           go_meet
           case rel => exact ⟨by rw [HNN.out]; simp, HB3.out⟩
         case rest =>
          obtain ⟨rfl, hbel⟩ := hcut
          clear HBEL HB3
          have HBEL := Lib.hid hbel
          clear hbel
          go_wp2
          go_roundg rest.length
          case measure => have := HSD.out.1; omega
          case rel => exact ⟨ofL rest, k', m + n, m', by rw [HP4.out], by rw [ofL_size], by simp, by rw [toL_ofL]; exact HS.out, by omega, by rw [ofL_size]; have := HSD.out.1; omega, HBEL.out⟩
end Go.Proofs.YtcjdideliifkhaaGreatDoor
