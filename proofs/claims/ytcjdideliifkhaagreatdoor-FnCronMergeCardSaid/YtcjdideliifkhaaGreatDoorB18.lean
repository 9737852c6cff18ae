import Derived.Test.YtcjdideliifkhaaGreatDoorB17
set_option maxRecDepth 100000
set_option maxHeartbeats 16000000
namespace Go.Proofs.YtcjdideliifkhaaGreatDoor
open Go.RowKit Go.Proofs.YtcjdideliifkhaaGreatDoorW.PrintWords Go.Proofs.YtcjdideliifkhaaGreatDoorW.PrintLast Go.Proofs.YtcjdideliifkhaaGreatDoorW.PrintMore PFnCronTextAfterAnywhere
set_option linter.unusedVariables false
set_option linter.unusedSimpArgs false
theorem head_at (P : UInt8 → Bool) (s : ByteArray) (b : Nat) (hb : b ≤ s.size) (t ds : Txt) (ht : (toL s).drop b = t) (hds : t.takeWhile P = ds) :
  (∀ i, b ≤ i → i < b + ds.length → ∃ h : i < s.size, P (s[i]'h) = true ∧ ds.take (i - b + 1) = ds.take (i - b) ++ [s[i]'h]) ∧ b + ds.length ≤ s.size ∧ (∀ h : b + ds.length < s.size, P (s[b + ds.length]'h) = false) ∧ (toL s).drop (b + ds.length) = t.dropWhile P := by
 obtain ⟨h1, h2, h3⟩ := tw_take P t
 have h4 := tw_all P t
 rw [hds] at h1 h2 h3 h4
 have hlen : t.length = s.size - b := by rw [← ht, List.length_drop, toL_len]
 refine ⟨fun i hb hi => ?_, by omega, fun h => ?_, by rw [← List.drop_drop, ht, h2]⟩
 ·obtain ⟨j, rfl⟩ : ∃ j, i = b + j := ⟨i - b, by omega⟩
  rw [Nat.add_sub_cancel_left]
  have hlt : b + j < s.size := by omega
  have hl : j < t.length := by omega
  have e : t[j]'hl = s[b + j]'hlt := by subst ht; rw [List.getElem_drop]; rfl
  have h5 : ds.take (j + 1) = ds.take j ++ [s[b + j]'hlt] := by
   rw [← h1, List.take_take, List.take_take, Nat.min_eq_left (by omega), Nat.min_eq_left (by omega), List.take_succ_eq_append_getElem hl, e]
  refine ⟨hlt, h4 _ ?_, h5⟩
  have : s[b + j]'hlt ∈ ds.take (j + 1) := by rw [h5]; simp
  exact List.mem_of_mem_take this
 ·have hl : ds.length < t.length := by omega
  have e : t[ds.length]'hl = s[b + ds.length]'h := by subst ht; rw [List.getElem_drop]; rfl
  rw [← e]
  have hd := List.head?_dropWhile_not P t
  rw [← h2, List.head?_drop, List.getElem?_eq_getElem hl] at hd
  simpa using hd
theorem frac_at (s : ByteArray) (a : Nat) (ha : a ≤ s.size) (l1 : Txt) (h : (toL s).drop a = l1) : ∃ dot : Bool, (∀ h : a < s.size, (((s[a]'h).toNat : Int) == 46) = dot) ∧ (s.size ≤ a → dot = false) ∧
  (dot = false → fracD l1 = [] ∧ aftF l1 = l1) ∧ (dot = true → a + 1 ≤ s.size ∧ fracD l1 = ((toL s).drop (a + 1)).takeWhile dig ∧ aftF l1 = ((toL s).drop (a + 1)).dropWhile dig) := by
 cases l1 with
 | nil =>
  have := drop_nil h
  exact ⟨false, fun h => by omega, fun _ => rfl, fun _ => ⟨rfl, rfl⟩, fun h => by cases h⟩
 | cons c t =>
  obtain ⟨h1, h2, h3, _⟩ := at_drop h
  have hc : s[a] = c := by
   have h4 := bt_nat s a h1
   rw [h2] at h4
   have e : (toL s)[a]'(by rw [toL_len]; exact h1) = s[a] := rfl
   rw [e] at h4
   exact (UInt8.toNat_inj.1 (by omega)).symm
  refine ⟨((c.toNat : Int) == 46), fun _ => by rw [hc], fun h => by omega, fun hd => ?_, fun hd => ?_⟩
  ·have : ¬ c.toNat = 46 := by simp at hd; omega
   unfold fracD aftF
   exact ⟨if_neg this, if_neg this⟩
  ·have : c.toNat = 46 := by simp at hd; omega
   unfold fracD aftF
   rw [h3]
   exact ⟨by omega, if_pos this, if_pos this⟩
def T1 (ds : Txt) (b m : Nat) (v : Value) : Prop := v = .int .i64 (val (ds.take (min b m)) : Nat)
theorem term_w (s : ByteArray) (hs : s.size ≤ 4294967296) (ds fs us l1 l2 rs : Txt) (hds : (toL s).takeWhile dig = ds) (hl1 : (toL s).dropWhile dig = l1) (hfs : fracD l1 = fs) (hl2 : aftF l1 = l2) (hus : l2.takeWhile inU = us) (hrs : l2.dropWhile inU = rs) (un mo : Nat) (hun : unitL us = (un, mo)) (hmo : un ≤ 3600000000000) (hmo2 : mo ≤ 11) (hfd : ∀ c ∈ fs, dig c = true) (n : Int) (r : Txt) (v : Int)
  (k1 : ds.length + fs.length = 0 ∨ un = 0 → n = 0 ∧ r = [] ∧ v = 0) (k2 : ¬ (ds.length + fs.length = 0 ∨ un = 0) → fs.length > mo ∨ 4611686018427387904 / un < val (ds.take (min ds.length 15)) + 1 → n = 0 ∧ r = rs ∧ v = 2)
  (k3 : ¬ (ds.length + fs.length = 0 ∨ un = 0) → ¬ (fs.length > mo ∨ 4611686018427387904 / un < val (ds.take (min ds.length 15)) + 1) → n = (val (ds.take (min ds.length 15)) * un + val (fs.take (min fs.length 11)) * (un / 10 ^ fs.length) : Nat) ∧ r = rs ∧ v = if ds.length ≤ 15 then 1 else 2) (w : World) :
  Calls Tryz.prog 110 #[.string s] w fun e w' => e = .returned (.tuple #[.int .i64 n, .string (ofL r), .int .i64 v]) ∧ Drawn0 w w' := by
 obtain ⟨hd1, hd2, hd3, hd4⟩ := head_at dig s 0 (Nat.zero_le _) _ ds rfl hds
 have hall := tw_all dig (toL s)
 rw [hds] at hall
 rw [List.drop_zero, hl1] at hd4
 simp only [Nat.zero_add, Nat.sub_zero, Nat.zero_le, forall_const] at hd1 hd2 hd3 hd4
 obtain ⟨dot, dt1, dt2, dt3, dt4⟩ := frac_at s ds.length hd2 l1 hd4
 rw [hfs, hl2] at dt3 dt4
 obtain ⟨b2, hb2, hb2d, hb2e⟩ : ∃ b2, b2 ≤ s.size ∧ (toL s).drop b2 = l2 ∧ ((dot = false ∧ b2 = ds.length) ∨ (dot = true ∧ b2 = ds.length + 1 + fs.length)) := by
  cases dot with
  | false => exact ⟨_, hd2, by rw [hd4, (dt3 rfl).2], .inl ⟨rfl, rfl⟩⟩
  | true =>
   obtain ⟨g1, g2, g3⟩ := dt4 rfl
   obtain ⟨k1, k2, k3, k4⟩ := head_at dig s (ds.length + 1) g1 _ fs rfl g2.symm
   exact ⟨_, k2, by rw [k4, g3], .inr ⟨rfl, rfl⟩⟩
 obtain ⟨u1, u2, u3, u4⟩ := head_at inU s b2 hb2 l2 us hb2d hus
 have HD1 := Lib.hid hd1
 have HD3 := Lib.hid hd3
 have HAL := Lib.hid hall
 have HDT1 := Lib.hid dt1
 have HDT2 := Lib.hid dt2
 have HDT3 := Lib.hid dt3
 have HDT4 := Lib.hid dt4
 have HB2 := Lib.hid hb2e
 have HU1 := Lib.hid u1
 have HU3 := Lib.hid u3
 have HU4 := Lib.hid u4
 have KA := Lib.hid k1
 have KB := Lib.hid k2
 have KC := Lib.hid k3
 clear k1 k2 k3 hd1 hd3 hall dt1 dt2 dt3 dt4 hb2e u1 u3 u4 hd4
 go_enter Tryz.func110, Tryz.ntmps110
 go_wp2
 go_loopw [4, 5, 6] (fun v4 v5 v6 wr => (∃ i : Nat, i ≤ ds.length ∧ v4 = .int .i64 (if i ≤ 15 then 1 else 2) ∧ v5 = .int .i64 (i : Int) ∧ T1 ds i 15 v6) ∧ Drawn0 w wr) (fun _ v5 _ _ => (ds.length - (intOf v5).toNat))
 case atStart => exact ⟨⟨0, Nat.zero_le _, rfl, rfl, rfl⟩, Drawn0.refl _⟩
 case round =>
  obtain ⟨⟨i, hi, rfl, rfl, ht1⟩, ⟨nd, rfl⟩⟩ := hrel
  have hx : val (ds.take (min i 15)) < 10 ^ 15 := Nat.lt_of_lt_of_le (val_lt _ fun c hc => HAL.out c (List.mem_of_mem_take hc)) (Nat.pow_le_pow_right (by decide) (by rw [List.length_take]; omega))
  obtain ⟨x, ex⟩ : ∃ x, val (ds.take (min i 15)) = x := ⟨_, rfl⟩
  obtain ⟨v, ev⟩ : ∃ v : Int, (if i ≤ 15 then 1 else 2) = v := ⟨_, rfl⟩
  unfold T1 at ht1
  rw [ex] at hx ht1
  subst ht1
  rw [ev]
  have EX := Lib.hid ex
  have EV := Lib.hid ev
  clear ex ev
  go_upto_region 3 with (fail)
  go_cut [24] (fun v24 wc => v24 = .bool (decide (i < ds.length)) ∧ Drawn0 w wc)
  case first =>
   by_cases h1 : i < s.size
   ·have hdg : dig s[i] = decide (i < ds.length) := by
     by_cases h2 : i < ds.length
     ·obtain ⟨_, h3, _⟩ := HD1.out i h2
      rw [h3, decide_eq_true h2]
     ·obtain rfl : i = ds.length := by omega
      rw [HD3.out h1, decide_eq_false h2]
    have HDG := Lib.hid hdg
    clear hdg
    go_wp2_with (first | (go_at_call 141; refine (spec_isDigit.calls _ (dig s[i]) _ (digit_f _)).mono ?_; rintro e w' ⟨rfl, ⟨nd, rfl⟩⟩))
    repeat (go_quiet (first | (go_at_call 141; refine (spec_isDigit.calls _ (dig s[i]) _ (digit_f _)).mono ?_; rintro e w' ⟨rfl, ⟨nd, rfl⟩⟩)); try go_wp2_with (first | (go_at_call 141; refine (spec_isDigit.calls _ (dig s[i]) _ (digit_f _)).mono ?_; rintro e w' ⟨rfl, ⟨nd, rfl⟩⟩)))
    go_meet
    case rel => exact ⟨by rw [HDG.out], by repeat (first | exact Drawn0.refl _ | apply Drawn0.step)⟩
   ·go_wp2
    repeat (go_quiet (fail); try go_wp2)
    go_meet
    case rel => exact ⟨by rw [decide_eq_false (by omega)], by repeat (first | exact Drawn0.refl _ | apply Drawn0.step)⟩
  case rest =>
   obtain ⟨rfl, ⟨nd2, rfl⟩⟩ := hcut
   by_cases h2 : i < ds.length
   ·rw [decide_eq_true h2]
    obtain ⟨h1, hdg, htk⟩ := HD1.out i h2
    have hr := dig_rng hdg
    have HV := Lib.hid htk
    clear htk
    by_cases h15 : i < 15
    ·go_wp2
     refine ⟨⟨⟨i + 1, h2, ?_, rfl, ?_⟩, by repeat (first | exact Drawn0.refl _ | apply Drawn0.step)⟩, by simp [intOf]; omega⟩
     ·rw [← EV.out, if_pos (by omega), if_pos (by omega)]
     ·unfold T1
      rw [Nat.min_eq_left (by omega), HV.out, val_snoc, ← EX.out, Nat.min_eq_left (by omega)]
      have := hr.1
      congr 1
      omega
    ·go_wp2
     refine ⟨⟨⟨i + 1, h2, ?_, rfl, ?_⟩, by repeat (first | exact Drawn0.refl _ | apply Drawn0.step)⟩, by simp [intOf]; omega⟩
     ·rw [if_neg (by omega)]
     ·unfold T1; rw [Nat.min_eq_right (by omega), ← EX.out, Nat.min_eq_right (by omega)]
   ·obtain rfl : i = ds.length := by omega
    rw [decide_eq_false h2]
    clear h2 hi HD1 HD3
    go_upto_region 9 with (fail)
    go_cut [47] (fun v47 wc => v47 = .bool dot ∧ Drawn0 w wc)
    case first =>
     by_cases h1 : ds.length < s.size
     ·have hd := HDT1.out h1
      go_wp2
      repeat (go_quiet (fail); try go_wp2)
      go_meet
      case rel => exact ⟨by rw [← hd], by repeat (first | exact Drawn0.refl _ | apply Drawn0.step)⟩
     ·go_wp2
      repeat (go_quiet (fail); try go_wp2)
      go_meet
      case rel => exact ⟨by rw [HDT2.out (by omega)], by repeat (first | exact Drawn0.refl _ | apply Drawn0.step)⟩
    case rest =>
     obtain ⟨rfl, ⟨nd3, rfl⟩⟩ := hcut
     go_upto_if 47 with (fail)
     obtain ⟨y, ey0⟩ : ∃ y, val (fs.take (min fs.length 11)) = y := ⟨_, rfl⟩
     have EY := Lib.hid ey0
     clear ey0
     go_cut [5, 7, 8, 9] (fun v5 v7 v8 v9 wc => v5 = .int .i64 (b2 : Int) ∧ v7 = .int .i64 (y : Int) ∧ v8 = .int .i64 (fs.length : Int) ∧ v9 = .int .i64 ((ds.length + fs.length : Nat) : Int) ∧ Drawn0 w wc)
     case first =>
      cases dot with
      | false =>
       obtain ⟨g1, g2⟩ := HDT3.out rfl
       subst g1
       go_wp2
       repeat (go_quiet (fail); try go_wp2)
       go_meet
       case rel =>
        have hb : b2 = ds.length := by rcases HB2.out with ⟨_, h⟩ | ⟨h, _⟩; exact h; cases h
        exact ⟨by rw [hb], by rw [← EY.out]; rfl, rfl, rfl, by repeat (first | exact Drawn0.refl _ | apply Drawn0.step)⟩
      | true =>
       obtain ⟨g1, g2, g3⟩ := HDT4.out rfl
       obtain ⟨k1, k2, k3, k4⟩ := head_at dig s (ds.length + 1) g1 _ fs rfl g2.symm
       have hfa := tw_all dig ((toL s).drop (ds.length + 1))
       rw [← g2] at hfa
       have HFA := Lib.hid hfa
       have K1 := Lib.hid k1
       have K3 := Lib.hid k3
       have hb : b2 = ds.length + 1 + fs.length := by rcases HB2.out with ⟨h, _⟩ | ⟨_, h⟩; cases h; exact h
       clear k1 k3 k4 g2 g3 hfa
       go_wp2
       go_loopw [5, 7, 8] (fun v5 v7 v8 wr => (∃ i : Nat, i ≤ fs.length ∧ v5 = .int .i64 ((ds.length + 1 + i : Nat) : Int) ∧ T1 fs i 11 v7 ∧ v8 = .int .i64 (i : Int)) ∧ Drawn0 w wr) (fun _ _ v8 _ => (fs.length - (intOf v8).toNat))
       case atStart => exact ⟨⟨0, Nat.zero_le _, rfl, rfl, rfl⟩, by repeat (first | exact Drawn0.refl _ | apply Drawn0.step)⟩
       case round =>
        obtain ⟨⟨q, hq, rfl, ht1, rfl⟩, ⟨nd, rfl⟩⟩ := hrel
        obtain ⟨i, hi⟩ : ∃ i, i = ds.length + 1 + q := ⟨_, rfl⟩
        rw [← hi]
        have HI := Lib.hid hi
        clear hi
        have hx : val (fs.take (min q 11)) < 10 ^ 11 := Nat.lt_of_lt_of_le (val_lt _ fun c hc => HFA.out c (List.mem_of_mem_take hc)) (Nat.pow_le_pow_right (by decide) (by rw [List.length_take]; omega))
        obtain ⟨x, ex⟩ : ∃ x, val (fs.take (min q 11)) = x := ⟨_, rfl⟩
        unfold T1 at ht1
        rw [ex] at hx ht1
        subst ht1
        have EX := Lib.hid ex
        clear ex
        go_upto_region 11 with (fail)
        go_cut [59] (fun v59 wc => v59 = .bool (decide (q < fs.length)) ∧ Drawn0 w wc)
        case first =>
         by_cases h1 : i < s.size
         ·have hi := HI.out
          have hdg : dig s[i] = decide (q < fs.length) := by
           by_cases h2 : q < fs.length
           ·obtain ⟨_, h3, _⟩ := K1.out i (by omega) (by omega)
            rw [h3, decide_eq_true h2]
           ·obtain rfl : i = ds.length + 1 + fs.length := by omega
            rw [K3.out h1, decide_eq_false h2]
          have HDG := Lib.hid hdg
          clear hdg hi
          go_wp2_with (first | (go_at_call 141; refine (spec_isDigit.calls _ (dig s[i]) _ (digit_f _)).mono ?_; rintro e w' ⟨rfl, ⟨nd, rfl⟩⟩))
          repeat (go_quiet (first | (go_at_call 141; refine (spec_isDigit.calls _ (dig s[i]) _ (digit_f _)).mono ?_; rintro e w' ⟨rfl, ⟨nd, rfl⟩⟩)); try go_wp2_with (first | (go_at_call 141; refine (spec_isDigit.calls _ (dig s[i]) _ (digit_f _)).mono ?_; rintro e w' ⟨rfl, ⟨nd, rfl⟩⟩)))
          go_meet
          case rel => exact ⟨by rw [HDG.out], by repeat (first | exact Drawn0.refl _ | apply Drawn0.step)⟩
         ·go_wp2
          repeat (go_quiet (fail); try go_wp2)
          go_meet
          case rel => exact ⟨by have := HI.out; rw [decide_eq_false (by omega)], by repeat (first | exact Drawn0.refl _ | apply Drawn0.step)⟩
        case rest =>
         obtain ⟨rfl, ⟨nd2, rfl⟩⟩ := hcut
         by_cases h2 : q < fs.length
         ·rw [decide_eq_true h2]
          obtain ⟨h1, hdg, htk⟩ := K1.out i (by have := HI.out; omega) (by have := HI.out; omega)
          have hr := dig_rng hdg
          have HV := Lib.hid htk
          clear htk
          by_cases h15 : q + 1 ≤ 11
          ·go_wp2
           refine ⟨⟨⟨q + 1, h2, congrArg (Value.int .i64) (by have := HI.out; omega), ?_, rfl⟩, by repeat (first | exact Drawn0.refl _ | apply Drawn0.step)⟩, by simp [intOf]; omega⟩
           have hi := HI.out
           unfold T1
           rw [Nat.min_eq_left (by omega), show q = i - (ds.length + 1) by omega, HV.out, val_snoc, ← EX.out, Nat.min_eq_left (by omega), show i - (ds.length + 1) = q by omega]
           have := hr.1
           congr 1
           omega
          ·go_wp2
           refine ⟨⟨⟨q + 1, h2, congrArg (Value.int .i64) (by have := HI.out; omega), ?_, rfl⟩, by repeat (first | exact Drawn0.refl _ | apply Drawn0.step)⟩, by simp [intOf]; omega⟩
           unfold T1; rw [Nat.min_eq_right (by omega), ← EX.out, Nat.min_eq_right (by omega)]
         ·obtain rfl : q = fs.length := by omega
          rw [decide_eq_false h2]
          go_wp2
          repeat (go_quiet (fail); try go_wp2)
          go_meet
          case rel =>
           have hi := HI.out
           exact ⟨by rw [hb, hi], by rw [← EY.out, EX.out], rfl, congrArg (Value.int .i64) (by omega), by repeat (first | exact Drawn0.refl _ | apply Drawn0.step)⟩
     case rest =>
      obtain ⟨rfl, rfl, rfl, rfl, ⟨nd4, rfl⟩⟩ := hcut
      obtain ⟨e, he⟩ : ∃ e, e = b2 + us.length := ⟨_, rfl⟩
      have hbe : b2 ≤ e := by omega
      have hes : e ≤ s.size := by omega
      have HE := Lib.hid he
      clear he
      go_upto_block 4 with (fail)
      go_cut [5] (fun v5 wc => v5 = .int .i64 (e : Int) ∧ Drawn0 w wc)
      case first =>
       go_wp2
       go_loopw [5] (fun v5 wr => (∃ i : Nat, b2 ≤ i ∧ i ≤ e ∧ v5 = .int .i64 (i : Int)) ∧ Drawn0 w wr) (fun v5 _ => (e - (intOf v5).toNat))
       case atStart => exact ⟨⟨b2, Nat.le_refl _, hbe, rfl⟩, by repeat (first | exact Drawn0.refl _ | apply Drawn0.step)⟩
       case round =>
        obtain ⟨⟨i, hbi, hie, rfl⟩, ⟨nd, rfl⟩⟩ := hrel
        by_cases h1 : i < s.size
        ·have hdg := digit_f s[i]
         have HDG := Lib.hid hdg
         obtain ⟨d, hd⟩ : ∃ d, dig s[i] = d := ⟨_, rfl⟩
         obtain ⟨p, hp⟩ : ∃ p, ((s[i].toNat : Int) != 46) = p := ⟨_, rfl⟩
         have hin : (!d && p) = decide (i < e) := by
          have h3 : inU s[i] = (!d && p) := by
           unfold inU stopU; rw [hd, ← hp]
           cases d <;> simp [bne]
           rw [Bool.eq_iff_iff]; simp; omega
          rw [← h3]
          by_cases h2 : i < e
          ·obtain ⟨_, h4, _⟩ := HU1.out i hbi (by have := HE.out; omega)
           rw [h4, decide_eq_true h2]
          ·obtain rfl : i = b2 + us.length := by have := HE.out; omega
           rw [HU3.out h1, decide_eq_false h2]
         rw [hd] at hdg
         have HDG := Lib.hid hdg
         clear hdg hd
         by_cases h2 : i < e
         ·rw [decide_eq_true h2] at hin
          cases d <;> cases p <;> first | (cases hin; done) | skip
          go_upto_region 19 with (first | (go_at_call 141; refine (spec_isDigit.calls _ false _ HDG.out).mono ?_; rintro e w' ⟨rfl, ⟨nd, rfl⟩⟩))
          repeat (go_quiet (first | (go_at_call 141; refine (spec_isDigit.calls _ false _ HDG.out).mono ?_; rintro e w' ⟨rfl, ⟨nd, rfl⟩⟩)); go_upto_region 19 with (first | (go_at_call 141; refine (spec_isDigit.calls _ false _ HDG.out).mono ?_; rintro e w' ⟨rfl, ⟨nd, rfl⟩⟩)))
          go_wp2
          refine ⟨⟨_, _, _, _, _, _, _, _, _, _, _, _, _, _, _, _, _, _, _, _, ⟨⟨i + 1, by omega, h2, rfl⟩, ?_⟩, rfl⟩, by simp [intOf]; omega⟩
          repeat (first | exact Drawn0.refl _ | apply Drawn0.step)
         ·rw [decide_eq_false h2] at hin
          obtain rfl : i = e := by omega
          cases d <;> cases p <;> first | (cases hin; done) | skip
          all_goals
           go_wp2_with (first | (go_at_call 141; refine (spec_isDigit.calls _ _ _ HDG.out).mono ?_; rintro e w' ⟨rfl, ⟨nd, rfl⟩⟩))
           repeat (go_quiet (first | (go_at_call 141; refine (spec_isDigit.calls _ _ _ HDG.out).mono ?_; rintro e w' ⟨rfl, ⟨nd, rfl⟩⟩)); try go_wp2_with (first | (go_at_call 141; refine (spec_isDigit.calls _ _ _ HDG.out).mono ?_; rintro e w' ⟨rfl, ⟨nd, rfl⟩⟩)))
           go_meet
           case rel => exact ⟨rfl, by repeat (first | exact Drawn0.refl _ | apply Drawn0.step)⟩
        ·obtain rfl : i = e := by omega
         go_wp2
         repeat (go_quiet (fail); try go_wp2)
         go_meet
         case rel => exact ⟨rfl, by repeat (first | exact Drawn0.refl _ | apply Drawn0.step)⟩
      case rest =>
       obtain ⟨rfl, ⟨nd5, rfl⟩⟩ := hcut
       obtain ⟨cn, hcn⟩ : ∃ cn, ds.length + fs.length = cn := ⟨_, rfl⟩
       rw [hcn]
       obtain ⟨c1, h1⟩ : ∃ b, ((cn : Int) == 0) = b := ⟨_, rfl⟩
       obtain ⟨c2, h2⟩ : ∃ b, ((un : Int) == 0) = b := ⟨_, rfl⟩
       have hse : s.extract b2 e = ofL us := by
        rw [extract_ofL]
        congr 1
        rw [List.drop_take, HE.out, Nat.add_sub_cancel_left, hb2d, ← hus, (tw_take inU l2).1]
       obtain ⟨k, hk⟩ := (unit_f (ofL us)).rounds
       rw [toL_ofL, hun, ← hse] at hk
       have HU := Lib.hid (fun w => spec_cronUnit.calls k _ _ _ w hk)
       clear hk hse hb2d
       by_cases hbad : (c1 || c2) = true
       ·cases c1 <;> cases c2 <;> first | exact absurd hbad (by decide) | skip
        all_goals
         go_wp2_with (first | (go_at_call 142; refine (HU.out _).mono ?_; rintro e w' ⟨rfl, ⟨nd, rfl⟩⟩))
         repeat (go_quiet (first | (go_at_call 142; refine (HU.out _).mono ?_; rintro e w' ⟨rfl, ⟨nd, rfl⟩⟩)); try go_wp2_with (first | (go_at_call 142; refine (HU.out _).mono ?_; rintro e w' ⟨rfl, ⟨nd, rfl⟩⟩)))
         refine bodyPost_ret (results_list (rs := [.tmp 2, .tmp 3, .tmp 4]) rfl (by simp) (.tmp (.tmp (.tmp .nil)))) rfl ?_
         obtain ⟨rfl, rfl, rfl⟩ := KA.out (by first | (left; rw [hcn]; have := beq_iff_eq.1 h1; omega) | (right; have := beq_iff_eq.1 h2; omega))
         exact ⟨rfl, by repeat (first | exact Drawn0.refl _ | apply Drawn0.step)⟩
       ·have hc1 : c1 = false := by cases c1; rfl; exact absurd rfl hbad
        have hc2 : c2 = false := by cases c2; rfl; exact absurd (Bool.or_true _) hbad
        subst hc1 hc2
        have hk0 : ¬ (ds.length + fs.length = 0 ∨ un = 0) := by rw [hcn]; have := beq_eq_false_iff_ne.1 h1; have := beq_eq_false_iff_ne.1 h2; omega
        have HKB := Lib.hid (KB.out hk0)
        have HKC := Lib.hid (KC.out hk0)
        have hu0 : 0 < un := by omega
        clear KA KB KC hk0 hbad
        go_upto_region 23 with (first | (go_at_call 142; refine (HU.out _).mono ?_; rintro e w' ⟨rfl, ⟨nd, rfl⟩⟩))
        repeat (go_quiet (first | (go_at_call 142; refine (HU.out _).mono ?_; rintro e w' ⟨rfl, ⟨nd, rfl⟩⟩)); go_upto_region 23 with (first | (go_at_call 142; refine (HU.out _).mono ?_; rintro e w' ⟨rfl, ⟨nd, rfl⟩⟩)))
        obtain ⟨X, hX, hXe, hXm⟩ := q62 un hu0 hmo
        rw [← hXe] at HKB HKC
        have hrst : s.extract e s.size = ofL rs := by
         rw [extract_ofL, List.take_of_length_le (by rw [toL_len]; exact Nat.le_refl _), HE.out, HU4.out, hrs]
        have HX := Lib.hid hX
        have HXM := Lib.hid hXm
        have HRS := Lib.hid hrst
        clear hX hXe hXm hrst
        by_cases q1 : mo < fs.length
        ·go_wp2
         repeat (go_quiet (fail); try go_wp2)
         refine bodyPost_ret (results_list (rs := [.tmp 2, .tmp 3, .tmp 4]) rfl (by simp) (.tmp (.tmp (.tmp .nil)))) rfl ?_
         obtain ⟨rfl, rfl, rfl⟩ := HKB.out (.inl q1)
         exact ⟨by rw [HRS.out]; rfl, by repeat (first | exact Drawn0.refl _ | apply Drawn0.step)⟩
        ·by_cases q2 : wrap64 ((4611686018427387904 : Int) / (un : Int) - 1) < (x : Int)
         ·go_wp2
          repeat (go_quiet (fail); try go_wp2)
          refine bodyPost_ret (results_list (rs := [.tmp 2, .tmp 3, .tmp 4]) rfl (by simp) (.tmp (.tmp (.tmp .nil)))) rfl ?_
          obtain ⟨rfl, rfl, rfl⟩ := HKB.out (.inr (by rw [HX.out] at q2; rw [EX.out]; omega))
          exact ⟨by rw [HRS.out]; rfl, by repeat (first | exact Drawn0.refl _ | apply Drawn0.step)⟩
         ·have hxX : x + 1 ≤ X := by rw [HX.out] at q2; omega
          go_wp2
          go_loopw [11, 125] (fun v11 v125 wr => (∃ j : Nat, j ≤ fs.length ∧ v11 = .int .i64 ((un / 10 ^ j : Nat) : Int) ∧ v125 = .int .i64 (j : Int)) ∧ Drawn0 w wr) (fun _ v125 _ => (fs.length - (intOf v125).toNat))
          case atStart => exact ⟨⟨0, Nat.zero_le _, by rw [Nat.pow_zero, Nat.div_one], rfl⟩, by repeat (first | exact Drawn0.refl _ | apply Drawn0.step)⟩
          case round =>
           obtain ⟨⟨j, hj, rfl, rfl⟩, ⟨nd, rfl⟩⟩ := hrel
           have hz0 : un / 10 ^ j ≤ un := Nat.div_le_self _ _
           obtain ⟨z, ez⟩ : ∃ z, un / 10 ^ j = z := ⟨_, rfl⟩
           rw [ez] at hz0 ⊢
           have EZ := Lib.hid ez
           clear ez
           by_cases hjl : j < fs.length
           ·go_wp2
            exact ⟨⟨⟨j + 1, hjl, congrArg (Value.int .i64) (div_ten un j z EZ.out), rfl⟩, by repeat (first | exact Drawn0.refl _ | apply Drawn0.step)⟩, by simp [intOf]; omega⟩
           ·obtain rfl : j = fs.length := by omega
            go_wp2_with (first | (go_at_call 142; refine (HU.out _).mono ?_; rintro e w' ⟨rfl, ⟨nd, rfl⟩⟩))
            repeat (go_quiet (fail); try go_wp2)
            refine bodyPost_ret (results_list (rs := [.tmp 2, .tmp 3, .tmp 4]) rfl (by simp) (.tmp (.tmp (.tmp .nil)))) rfl ?_
            obtain ⟨rfl, rfl, rfl⟩ := HKC.out (by rintro (h | h); exact q1 h; rw [EX.out] at h; omega)
            have hy : y ≤ 10 ^ fs.length := by
             rw [← EY.out, Nat.min_eq_left (by omega), List.take_length]
             exact Nat.le_of_lt (val_lt fs hfd)
            rw [EX.out, EY.out, EV.out, EZ.out, ← (wrapW x y un z X fs.length hxX HXM.out hy EZ.out).1, ← HRS.out]
            exact ⟨rfl, by repeat (first | exact Drawn0.refl _ | apply Drawn0.step)⟩
theorem term_c (s : ByteArray) (hs : s.size ≤ 4294967296) : ∃ (n : Nat) (rest : Txt) (v : Int), n ≤ 4611686018427387904 ∧ 0 ≤ v ∧ rest.length ≤ (toL s).length ∧ (v ≠ 0 → rest.length < (toL s).length) ∧ (v = 1 → TermR (toL s) n rest) ∧
  ∀ w, Calls Tryz.prog 110 #[.string s] w fun e w' => e = .returned (.tuple #[.int .i64 (n : Int), .string (ofL rest), .int .i64 v]) ∧ Drawn0 w w' := by
 have hR : ∀ n rest, TermR (toL s) n rest = (∃ ds fs u : Txt, ds = (toL s).takeWhile dig ∧ fs = fracD ((toL s).dropWhile dig) ∧ u = (aftF ((toL s).dropWhile dig)).takeWhile inU ∧ rest = (aftF ((toL s).dropWhile dig)).dropWhile inU ∧
  ds.length ≤ 15 ∧ (ds ≠ [] ∨ fs ≠ []) ∧ fs.length ≤ (unitL u).2 ∧ 0 < (unitL u).1 ∧ val ds + 1 ≤ 4611686018427387904 / (unitL u).1 ∧ n = val ds * (unitL u).1 + val fs * ((unitL u).1 / 10 ^ fs.length)) := fun _ _ => rfl
 have hw := term_w s hs _ _ _ _ _ _ rfl rfl rfl rfl rfl rfl (unitL _).1 (unitL _).2 rfl (unitL_div _ 0 (Nat.zero_le _)).1 (unitL_most _)
 have h1 := tw_take dig (toL s)
 have hfd : ∀ l, (∀ c ∈ fracD l, dig c = true) ∧ (fracD l).length + (aftF l).length ≤ l.length := fun l => by
  cases l with
  | nil => exact ⟨fun c hc => (by cases hc), Nat.le_refl _⟩
  | cons c t =>
   by_cases h : c.toNat = 46
   ·have h2 := tw_take dig t
    have h3 := congrArg List.length h2.2.1
    rw [List.length_drop] at h3
    rw [show fracD (c :: t) = t.takeWhile dig from if_pos h, show aftF (c :: t) = t.dropWhile dig from if_pos h]
    exact ⟨tw_all dig t, by rw [List.length_cons]; omega⟩
   ·rw [show fracD (c :: t) = [] from if_neg h, show aftF (c :: t) = c :: t from if_neg h]
    exact ⟨fun c hc => (by cases hc), by simp⟩
 replace hfd := hfd ((toL s).dropWhile dig)
 replace hw := hw hfd.1
 have hm := unitL_most ((aftF ((toL s).dropWhile dig)).takeWhile inU)
 have hdd := fun q h => unitL_div ((aftF ((toL s).dropWhile dig)).takeWhile inU) q h
 have hds := tw_all dig (toL s)
 have h4 := tw_take inU (aftF ((toL s).dropWhile dig))
 have hd1 := congrArg List.length h1.2.1
 have hd4 := congrArg List.length h4.2.1
 rw [List.length_drop] at hd1 hd4
 generalize (toL s).takeWhile dig = ds at *
 generalize (toL s).dropWhile dig = l1 at *
 generalize fracD l1 = fs at *
 generalize aftF l1 = l2 at *
 generalize l2.takeWhile inU = us at *
 generalize l2.dropWhile inU = rs at *
 have hv := val_lt fs hfd.1
 have hd0 := (hdd 0 (Nat.zero_le _)).1
 generalize UM : unitL us = um at *
 obtain ⟨un, mo⟩ := um
 by_cases b : ds.length + fs.length = 0 ∨ un = 0
 ·exact ⟨0, [], 0, by decide, by decide, by simp, fun h => absurd rfl h, fun h => (by cases h), hw 0 [] 0 (fun _ => ⟨rfl, rfl, rfl⟩) (fun h => absurd b h) (fun h => absurd b h)⟩
 have hlt : rs.length < (toL s).length := by omega
 have hu0 : 0 < un := by omega
 by_cases c : fs.length > mo ∨ 4611686018427387904 / un < val (ds.take (min ds.length 15)) + 1
 ·exact ⟨0, rs, 2, by decide, by decide, Nat.le_of_lt hlt, fun _ => hlt, fun h => (by cases h), hw 0 rs 2 (fun h => absurd h b) (fun _ _ => ⟨rfl, rfl, rfl⟩) (fun _ h => absurd c h)⟩
 obtain ⟨X, -, hX, hXm⟩ := q62 un hu0 hd0
 rw [← hX] at c
 have c1 : fs.length ≤ mo := by omega
 have c2 : val (ds.take (min ds.length 15)) + 1 ≤ X := by omega
 have c3 : fs.take (min fs.length 11) = fs := by rw [Nat.min_eq_left (Nat.le_trans c1 hm), List.take_length]
 refine ⟨_, rs, _, (wrapW _ (val fs) un _ X fs.length c2 hXm (Nat.le_of_lt hv) rfl).2, ?_, Nat.le_of_lt hlt, fun _ => hlt, ?_, hw _ rs (if ds.length ≤ 15 then 1 else 2) (fun h => absurd h b) (fun _ h => absurd h (by rw [← hX]; exact c)) (fun _ _ => ⟨by rw [c3], rfl, rfl⟩)⟩
 ·split <;> decide
 ·intro h
  have c4 : ds.length ≤ 15 := by
   by_cases c5 : ds.length ≤ 15
   ·exact c5
   ·rw [if_neg c5] at h; cases h
  have c5 : ds.take (min ds.length 15) = ds := by rw [Nat.min_eq_left c4, List.take_length]
  rw [c5] at c2 ⊢
  rw [hR]
  refine ⟨ds, fs, us, rfl, rfl, rfl, rfl, c4, ?_, by rw [UM]; exact c1, by rw [UM]; exact hu0, by rw [UM, ← hX]; exact c2, by rw [UM]⟩
  by_cases c6 : ds = []
  ·exact .inr fun h => b (.inl (by rw [c6, h]; rfl))
  ·exact .inl c6
end Go.Proofs.YtcjdideliifkhaaGreatDoor
