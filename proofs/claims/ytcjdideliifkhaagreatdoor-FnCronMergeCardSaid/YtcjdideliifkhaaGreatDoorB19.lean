import Derived.Test.YtcjdideliifkhaaGreatDoorB18
import Derived.Test.YtcjdideliifkhaaGreatDoorB15
set_option maxRecDepth 100000
set_option maxHeartbeats 16000000
namespace Go.Proofs.YtcjdideliifkhaaGreatDoor
open Go.RowKit Go.Proofs.YtcjdideliifkhaaGreatDoorW.PrintWords Go.Proofs.YtcjdideliifkhaaGreatDoorW.PrintLast Go.Proofs.YtcjdideliifkhaaGreatDoorW.PrintMore PFnCronTextAfterAnywhere
set_option linter.unusedVariables false
set_option linter.unusedSimpArgs false
def DurO (neg : Bool) (d v : Int) : Nat → Txt → Nat → Int → Prop
 | 0, _, _, _ => False
 | k + 1, l, sum, vd => l.length ≤ 4294967296 ∧ sum ≤ 4611686018427387904 ∧
  ((l = [] ∧ ((vd = 1 ∧ v = 1 ∧ d = if neg then -(sum : Int) else sum) ∨ (vd ≠ 1 ∧ d = 0 ∧ v = vd))) ∨
  (l ≠ [] ∧ ∃ (n : Nat) (rest : Txt) (tv wv : Int), n ≤ 4611686018427387904 ∧ (∀ w, Calls Tryz.prog 110 #[.string (ofL l)] w fun e w' => e = .returned (.tuple #[.int .i64 (n : Int), .string (ofL rest), .int .i64 tv]) ∧ Drawn0 w w') ∧ spec_worse.f vd tv = some wv ∧
   ((wv = 0 ∧ d = 0 ∧ v = 0) ∨ (wv ≠ 0 ∧ rest.length < l.length ∧ ((sum + n > 4611686018427387904 ∧ DurO neg d v k rest sum 2) ∨ (sum + n ≤ 4611686018427387904 ∧ DurO neg d v k rest (sum + n) wv))))))
theorem durO_ex (neg : Bool) : ∀ (m : Nat) (l : Txt), l.length < m → l.length ≤ 4294967296 → ∀ (sum : Nat) (vd : Int), sum ≤ 4611686018427387904 → 1 ≤ vd →
  ∃ (d v : Int), DurO neg d v m l sum vd ∧ 0 ≤ v ∧ (v = 1 → vd = 1 ∧ ∃ k t, SumR k l t ∧ sum + t ≤ 4611686018427387904 ∧ d = if neg then -((sum + t : Nat) : Int) else ((sum + t : Nat) : Int)) := by
 intro m
 induction m with
 | zero => intro l hl; omega
 | succ m ih =>
  intro l hm hs sum vd hsum hvd
  by_cases h0 : l = []
  ·by_cases h1 : vd = 1
   ·exact ⟨if neg then -(sum : Int) else sum, 1, ⟨hs, hsum, .inl ⟨h0, .inl ⟨h1, rfl, rfl⟩⟩⟩, by decide, fun _ => ⟨h1, 0, 0, ⟨h0, rfl⟩, by omega, by cases neg <;> simp⟩⟩
   ·exact ⟨0, vd, ⟨hs, hsum, .inl ⟨h0, .inr ⟨h1, rfl, rfl⟩⟩⟩, by omega, fun h => absurd h h1⟩
  ·obtain ⟨n, rest, v, hn, hv0, hrl, hrl2, hrel, hc⟩ := term_c (ofL l) (by rw [ofL_size]; exact hs)
   rw [toL_ofL] at hrl hrl2 hrel
   obtain ⟨wv, hwv, hwv0, hwv1⟩ := worse_f vd v (by omega) hv0
   by_cases hw0 : wv = 0
   ·exact ⟨0, 0, ⟨hs, hsum, .inr ⟨h0, n, rest, v, wv, hn, hc, hwv, .inl ⟨hw0, rfl, rfl⟩⟩⟩, by decide, fun h => by cases h⟩
   ·have hvne : v ≠ 0 := fun h => by
     subst h
     apply hw0
     unfold spec_worse.f at hwv
     split at hwv
     ·cases hwv; rfl
     ·rw [if_pos rfl] at hwv; cases hwv; rfl
    have hlt := hrl2 hvne
    by_cases hbig : sum + n > 4611686018427387904
    ·obtain ⟨d, v2, he2, h20, h21⟩ := ih rest (by omega) (by omega) sum 2 hsum (by decide)
     exact ⟨d, v2, ⟨hs, hsum, .inr ⟨h0, n, rest, v, wv, hn, hc, hwv, .inr ⟨hw0, hlt, .inl ⟨hbig, he2⟩⟩⟩⟩, h20, fun h => absurd (h21 h).1 (by decide)⟩
    ·obtain ⟨d, v2, he2, h20, h21⟩ := ih rest (by omega) (by omega) (sum + n) wv (by omega) (by omega)
     refine ⟨d, v2, ⟨hs, hsum, .inr ⟨h0, n, rest, v, wv, hn, hc, hwv, .inr ⟨hw0, hlt, .inr ⟨by omega, he2⟩⟩⟩⟩, h20, fun h => ?_⟩
     obtain ⟨g1, k, t, g2, g3, g4⟩ := h21 h
     obtain ⟨g5, g6⟩ := hwv1 g1
     refine ⟨g5, k + 1, n + t, .inr ⟨h0, n, rest, t, hrel g6, g2, rfl⟩, by omega, ?_⟩
     rw [g4, show sum + n + t = sum + (n + t) by omega]
def AftSign (neg : Bool) (t : Txt) (d v : Int) : Prop := (t = [48] ∧ d = 0 ∧ v = 1) ∨ (t = [] ∧ d = 0 ∧ v = 0) ∨ (t ≠ [48] ∧ t ≠ [] ∧ DurO neg d v (t.length + 1) t 0 1)
def strLen : Value → Nat
 | .string s => s.size
 | _ => 0
theorem dur_w (s : ByteArray) (hs : s.size ≤ 4294967296) (neg : Bool) (sg : Bool) (t : Txt) (hsg : ∀ h : 0 < s.size, (((s[0]'h).toNat : Int) == 45) = (sg && neg) ∧ (((s[0]'h).toNat : Int) == 43) = (sg && !neg)) (h0 : sg = true → 0 < s.size ∧ s.extract 1 s.size = ofL t) (h1 : sg = false → s = ofL t ∧ neg = false) (d v : Int) (hd : AftSign neg t d v) (w : World) :
  Calls Tryz.prog 78 #[.string s] w fun e w' => e = .returned (.tuple #[.int .i64 d, .int .i64 v]) ∧ Below w.heap.size w w' := by
 have HSG := Lib.hid hsg
 have H0 := Lib.hid h0
 have H1 := Lib.hid h1
 have HD := Lib.hid hd
 clear hsg h0 h1 hd
 go_enter Tryz.func78, Tryz.ntmps78
 go_upto_region 2 with (fail)
 go_cut [21] (fun v21 wc => v21 = .bool sg ∧ Drawn0 w wc)
 case first =>
  by_cases hz : 0 < s.size
  ·obtain ⟨e1, e2⟩ := HSG.out hz
   have hne : s.toList.isEmpty = false := by
    rw [toList_toL]
    cases h : toL s with
    | nil => have := congrArg List.length h; rw [toL_len, List.length_nil] at this; omega
    | cons _ _ => rfl
   cases sg <;> cases neg
   all_goals
    go_wp2
    repeat (go_quiet (fail); try go_wp2)
    go_meet
    case rel => exact ⟨rfl, by repeat (first | exact Drawn0.refl _ | apply Drawn0.step)⟩
  ·have hs0 : sg = false := by cases sg; rfl; exact absurd (H0.out rfl).1 hz
   have hne : s.toList.isEmpty = true := by
    rw [toList_toL, List.isEmpty_iff]
    exact List.eq_nil_of_length_eq_zero (by rw [toL_len]; omega)
   go_wp2
   repeat (go_quiet (fail); try go_wp2)
   go_meet
   case rel => exact ⟨by rw [hs0], by repeat (first | exact Drawn0.refl _ | apply Drawn0.step)⟩
 case rest =>
  obtain ⟨rfl, ⟨nd, rfl⟩⟩ := hcut
  go_upto_if 21 with (fail)
  go_cut [0, 4] (fun v0 v4 wc => v0 = .string (ofL t) ∧ v4 = .bool neg ∧ Drawn0 w wc)
  case first =>
   cases sg with
   | true =>
    obtain ⟨hz, hx⟩ := H0.out rfl
    obtain ⟨e1, e2⟩ := HSG.out hz
    go_wp2
    repeat (go_quiet (fail); try go_wp2)
    go_meet
    case rel => exact ⟨rfl, rfl, by repeat (first | exact Drawn0.refl _ | apply Drawn0.step)⟩
   | false =>
    obtain ⟨hx, rfl⟩ := H1.out rfl
    go_wp2
    go_meet
    case rel => exact ⟨rfl, rfl, by repeat (first | exact Drawn0.refl _ | apply Drawn0.step)⟩
  case rest =>
   obtain ⟨rfl, rfl, hdr⟩ := hcut
   have HB := hdr.below
   clear hdr H0 H1 HSG
   rename_i wc
   rcases HD.out with ⟨ht, rfl, rfl⟩ | ⟨ht, rfl, rfl⟩ | ⟨n48, ne, ho⟩
   ·have e1 : ((ofL t).toList == ([48] : List UInt8)) = true := by rw [toList_toL, toL_ofL, ht]; rfl
    clear ht
    go_wp2
    refine bodyPost_ret (results_list (rs := [.tmp 2, .tmp 3]) rfl (by simp) (.tmp (.tmp .nil))) rfl ?_; exact ⟨rfl, HB⟩
   ·have e1 : ((ofL t).toList == ([48] : List UInt8)) = false := by rw [toList_toL, toL_ofL, ht]; rfl
    have e2 : ((ofL t).toList == ([] : List UInt8)) = true := by rw [toList_toL, toL_ofL, ht]; rfl
    have e3 : (ofL t).toList.isEmpty = true := by rw [toList_toL, toL_ofL, ht]; rfl
    clear ht
    go_wp2
    refine bodyPost_ret (results_list (rs := [.tmp 2, .tmp 3]) rfl (by simp) (.tmp (.tmp .nil))) rfl ?_; exact ⟨rfl, HB⟩
   ·have e1 : ((ofL t).toList == ([48] : List UInt8)) = false := by rw [toList_toL, toL_ofL]; simpa using n48
    have e2 : ((ofL t).toList == ([] : List UInt8)) = false := by rw [toList_toL, toL_ofL]; simpa using ne
    have e3 : (ofL t).toList.isEmpty = false := by rw [toList_toL, toL_ofL]; simpa using ne
    go_wp2
    clear e1 e2 e3
    go_loopw [0, 5, 6] (fun v0 v5 v6 wr => (∃ k l sum vd, v0 = .string (ofL l) ∧ v5 = .int .i64 ((sum : Nat) : Int) ∧ v6 = .int .i64 vd ∧ DurO neg d v k l sum vd) ∧ Below w.heap.size w wr) (fun v0 _ _ _ => strLen v0)
    case atStart => exact ⟨⟨_, t, 0, 1, rfl, rfl, rfl, ho⟩, HB⟩
    case round =>
     obtain ⟨⟨k, l, sum, vd, rfl, rfl, rfl, ho⟩, hb⟩ := hrel
     clear HB
     rename_i wr
     have HB := Lib.hid hb
     clear hb
     cases k with
     | zero => exact ho.elim
     | succ k =>
      obtain ⟨hl, hsum, ho⟩ := ho
      rcases ho with ⟨hl0, ho⟩ | ⟨hl0, n, rest, tv, wv, hn, hc, hw, ho⟩
      ·have e2 : ((ofL l).toList == ([] : List UInt8)) = true := by rw [toList_toL, toL_ofL, hl0]; rfl
       have e3 : (ofL l).toList.isEmpty = true := by rw [toList_toL, toL_ofL, hl0]; rfl
       clear hl0
       rcases ho with ⟨rfl, rfl, hd⟩ | ⟨h1, rfl, rfl⟩
       ·cases neg
        all_goals
         go_wp2
         refine bodyPost_ret (results_list (rs := [.tmp 2, .tmp 3]) rfl (by simp) (.tmp (.tmp .nil))) rfl ?_; exact ⟨by first | rfl | (rw [hd]; rfl), HB.out⟩
       ·go_wp2
        refine bodyPost_ret (results_list (rs := [.tmp 2, .tmp 3]) rfl (by simp) (.tmp (.tmp .nil))) rfl ?_; exact ⟨rfl, HB.out⟩
      ·have e2 : ((ofL l).toList == ([] : List UInt8)) = false := by rw [toList_toL, toL_ofL]; simpa using hl0
       have e3 : (ofL l).toList.isEmpty = false := by rw [toList_toL, toL_ofL]; simpa using hl0
       have HC := Lib.hid hc
       have HW := Lib.hid hw
       clear hc hw
       rcases ho with ⟨rfl, rfl, rfl⟩ | ⟨hw0, hlt, ho⟩
       ·go_upto_region 11 with (go_at_call 110; refine (HC.out _).mono ?_; rintro e w4 ⟨rfl, hb4⟩; have HB4 := Lib.hid (below_step HB.out hb4.below); clear hb4)
        go_wp2_with (first  | (go_at_call 28; refine (spec_worse.calls _ _ _ _ HW.out).mono ?_; rintro e w5 ⟨rfl, hb5⟩; have HB5 := Lib.hid (below_step HB4.out hb5); clear hb5))
        refine bodyPost_ret (results_list (rs := [.tmp 2, .tmp 3]) rfl (by simp) (.tmp (.tmp .nil))) rfl ?_; exact ⟨rfl, HB5.out⟩
       ·have hr : strLen (.string (ofL rest)) < strLen (.string (ofL l)) := by show (ofL rest).size < (ofL l).size; rw [ofL_size, ofL_size]; exact hlt
        rcases ho with ⟨h1, ho⟩ | ⟨h1, ho⟩
        all_goals go_wp2_with (first | (go_at_call 110; refine (HC.out _).mono ?_; rintro e w4 ⟨rfl, hb4⟩; have HB4 := Lib.hid (below_step HB.out hb4.below); clear hb4) | (go_at_call 28; refine (spec_worse.calls _ _ _ _ HW.out).mono ?_; rintro e w5 ⟨rfl, hb5⟩; have HB5 := Lib.hid (below_step HB4.out hb5); clear hb5))
        ·exact ⟨⟨⟨k, rest, sum, 2, rfl, rfl, rfl, ho⟩, HB5.out⟩, hr⟩
        ·exact ⟨⟨⟨k, rest, sum + n, wv, rfl, rfl, rfl, ho⟩, HB5.out⟩, hr⟩
theorem dur_c (s : ByteArray) (hs : s.size ≤ 4294967296) : ∃ (d v : Int), 0 ≤ v ∧ (v = 1 → DurR (toL s) d) ∧ ∀ w, Calls Tryz.prog 78 #[.string s] w fun e w' => e = .returned (.tuple #[.int .i64 d, .int .i64 v]) ∧ Below w.heap.size w w' := by
 have hj : ∀ (neg : Bool) (t : Txt), t.length ≤ s.size → ∃ (d v : Int), AftSign neg t d v ∧ 0 ≤ v ∧ (v = 1 → ((t = [48] ∧ d = 0) ∨ (t ≠ [48] ∧ t ≠ [] ∧ ∃ k s, SumR k t s ∧ s ≤ 4611686018427387904 ∧ d = if neg then -(s : Int) else (s : Int)))) := fun neg t htl => by
  by_cases h1 : t = [48]
  ·exact ⟨0, 1, .inl ⟨h1, rfl, rfl⟩, by decide, fun _ => .inl ⟨h1, rfl⟩⟩
  by_cases h2 : t = []
  ·exact ⟨0, 0, .inr (.inl ⟨h2, rfl, rfl⟩), by decide, fun h => by cases h⟩
  obtain ⟨d, v, he, hv, hr⟩ := durO_ex neg (t.length + 1) t (Nat.lt_succ_self _) (by omega) 0 1 (by decide) (by decide)
  refine ⟨d, v, .inr (.inr ⟨h1, h2, he⟩), hv, fun h => .inr ⟨h1, h2, ?_⟩⟩
  obtain ⟨_, k, t', g1, g2, g3⟩ := hr h
  exact ⟨k, t', g1, by omega, by rw [g3, Nat.zero_add]⟩
 cases hl : toL s with
 | nil =>
  have h0 : s.size = 0 := by rw [← toL_len, hl]; rfl
  obtain ⟨d, v, he, hv, hr⟩ := hj false [] (Nat.zero_le _)
  exact ⟨d, v, hv, fun h => ⟨false, [], .inr (.inr ⟨rfl, rfl, by simp, by simp⟩), hr h⟩, fun w => dur_w s hs false false [] (fun h => by omega) (fun h => by cases h) (fun _ => ⟨by rw [← hl]; rfl, rfl⟩) d v he w⟩
 | cons c t =>
  obtain ⟨a1, a2, a3, a4⟩ := at_drop (s := s) (i := 0) (by rw [List.drop_zero]; exact hl)
  have hc : (s[0]'a1) = c := by
   have h4 := bt_nat s 0 a1
   rw [a2] at h4
   have e : (toL s)[0]'(by rw [toL_len]; exact a1) = s[0] := rfl
   rw [e] at h4
   exact (UInt8.toNat_inj.1 (by omega)).symm
  have htl : t.length ≤ s.size := by have := congrArg List.length hl; rw [toL_len, List.length_cons] at this; omega
  have hext : s.extract 1 s.size = ofL t := by
   rw [extract_ofL, List.take_of_length_le (by rw [toL_len]; exact Nat.le_refl _), hl]; rfl
  have hne : ∀ k : UInt8, c ≠ k → ((c.toNat : Int) == (k.toNat : Int)) = false := fun k h => by
   have : c.toNat ≠ k.toNat := fun g => h (UInt8.toNat_inj.1 g)
   simp; omega
  by_cases h45 : c = 45
  ·obtain ⟨d, v, he, hv, hr⟩ := hj true t htl
   exact ⟨d, v, hv, fun h => ⟨true, t, .inl ⟨by rw [h45], rfl⟩, hr h⟩, fun w => dur_w s hs true true t (fun h => by rw [hc, h45]; exact ⟨rfl, rfl⟩) (fun _ => ⟨a1, hext⟩) (fun h => by cases h) d v he w⟩
  by_cases h43 : c = 43
  ·obtain ⟨d, v, he, hv, hr⟩ := hj false t htl
   exact ⟨d, v, hv, fun h => ⟨false, t, .inr (.inl ⟨by rw [h43], rfl⟩), hr h⟩, fun w => dur_w s hs false true t (fun h => by rw [hc, h43]; exact ⟨rfl, rfl⟩) (fun _ => ⟨a1, hext⟩) (fun h => by cases h) d v he w⟩
  ·obtain ⟨d, v, he, hv, hr⟩ := hj false (toL s) (Nat.le_of_eq (toL_len s))
   exact ⟨d, v, hv, fun h => ⟨false, c :: t, .inr (.inr ⟨rfl, rfl, by simpa using h45, by simpa using h43⟩), by rw [← hl]; exact hr h⟩, fun w => dur_w s hs false false (toL s) (fun h => by rw [hc]; exact ⟨hne 45 h45, hne 43 h43⟩) (fun h => by cases h) (fun _ => ⟨rfl, rfl⟩) d v he w⟩
theorem take_at (s : ByteArray) (i : Nat) (h : i < s.size) : (toL s).take (i + 1) = (toL s).take i ++ [s[i]] := List.take_succ_eq_append_getElem h
theorem take_all (s : ByteArray) : (toL s).take s.size = toL s := List.take_of_length_le (Nat.le_refl _)
theorem digit_c (c : UInt8) (w : World) : Calls Tryz.prog 141 #[.int .u8 (c.toNat : Int)] w fun e w' => e = .returned (.bool (dig c)) ∧ Below w.heap.size w w' := by
 refine (spec_isDigit.calls _ (dig c) _ (digit_f c)).mono ?_
 rintro e w' ⟨rfl, h⟩
 exact ⟨rfl, h.below⟩
theorem zeros_c (s : ByteArray) (hs : s.size ≤ 4294967296) (w : World) : Calls Tryz.prog 160 #[.string s] w fun e w' => e = .returned (.bool ((toL s).all fun c => c.toNat == 48)) ∧ Below w.heap.size w w' := by
 go_enter Tryz.func160, Tryz.ntmps160
 go_wp2
 go_loopw [6] (fun v6 wr => ∃ i : Nat, v6 = .int .i64 (i : Int) ∧ i ≤ s.size ∧ (∀ c ∈ (toL s).take i, c.toNat = 48) ∧ Below w.heap.size w wr) (fun v6 _ => s.size - (intOf v6).toNat)
 case atStart => exact ⟨0, rfl, Nat.zero_le _, by simp, Below.refl _ _⟩
 case round =>
  obtain ⟨i, rfl, hi, hz, hb⟩ := hrel
  have HZ := Lib.hid hz
  have HB := Lib.hid hb
  clear hz hb
  by_cases h : i < s.size
  ·have HT := Lib.hid (take_at s i h)
   by_cases hc : s[i].toNat = 48
   ·have hc' : ((s[i].toNat : Int) != 48) = false := by simp; omega
    go_wp2
    exact ⟨⟨i + 1, rfl, h, fun c h' => by rw [HT.out] at h'; rcases List.mem_append.1 h' with h1 | h1; exact HZ.out c h1; rw [List.mem_singleton.1 h1]; exact hc, HB.out⟩, by simp [intOf]; omega⟩
   ·have hc' : ((s[i].toNat : Int) != 48) = true := by simp; omega
    go_wp2
    go_ret
    exact ⟨by rw [List.all_eq_false.2 ⟨s[i], List.getElem_mem (l := toL s) h, by simpa using hc⟩]; rfl, HB.out⟩
  ·obtain rfl : i = s.size := by omega
   go_wp2
   go_ret
   exact ⟨by rw [List.all_eq_true.2 fun c h => by simpa using HZ.out c (by rw [take_all]; exact h)]; rfl, HB.out⟩
theorem ext_all {s : ByteArray} {c : UInt8} {t : Txt} (h : toL s = c :: t) : s.extract 1 s.size = ofL t := by
 rw [extract_ofL, take_all, h]; rfl
def numT (t : Txt) (v : Int) : Int × Int := if t = [] then (0, 0) else if t.all dig then ((min (val t) 1099511627776 : Nat), v) else (0, 0)
def signT : Txt → Bool
 | [] => false
 | c :: r => c.toNat == 43 || (c.toNat == 45 && r.all fun c => c.toNat == 48)
def numL (t : Txt) : Int × Int := if signT t then numT t.tail 2 else numT t 1
theorem val_snocM (t : Txt) (c : UInt8) : min (val (t ++ [c])) 1099511627776 = min (10 * min (val t) 1099511627776 + (c.toNat - 48)) 1099511627776 := by
 unfold val
 rw [List.foldl_append]
 simp only [List.foldl_cons, List.foldl_nil]
 unfold dval
 omega
theorem number_c (s : ByteArray) (hs : s.size ≤ 4294967296) (w : World) : Calls Tryz.prog 154 #[.string s] w fun e w' => e = .returned (.tuple #[.int .i64 (numL (toL s)).1, .int .i64 (numL (toL s)).2]) ∧ Below w.heap.size w w' := by
 go_enter Tryz.func154, Tryz.ntmps154
 go_upto_region 2 with (fail)
 go_cut [24] (fun v24 wc => v24 = .bool (signT (toL s)) ∧ Below w.heap.size w wc)
 case first =>
  by_cases h0 : 0 < s.size
  ·obtain ⟨c, r, e⟩ := List.exists_cons_of_length_pos (l := toL s) h0
   have hc : s[0] = c := by
    have : (toL s)[0] = c := by simp [e]
    exact this
   have hx := ext_all e
   have hr : r.length ≤ 4294967296 := by have := congrArg List.length e; rw [toL_len] at this; simp at this; omega
   obtain ⟨b1, h1⟩ : ∃ b, ((s[0].toNat : Int) == 43) = b := ⟨_, rfl⟩
   obtain ⟨b2, h2⟩ : ∃ b, ((s[0].toNat : Int) == 45) = b := ⟨_, rfl⟩
   have HZ := Lib.hid (zeros_c (s.extract 1 s.size) (by rw [hx]; exact hr))
   have HG := Lib.hid (show signT (toL s) = (b1 || (b2 && (toL (s.extract 1 s.size)).all fun c => c.toNat == 48)) by
    rw [e, ← h1, ← h2, hx, hc, toL_ofL]
    simp only [signT]
    congr 1
    ·rw [Bool.eq_iff_iff]; simp; omega
    ·congr 1; rw [Bool.eq_iff_iff]; simp; omega)
   clear e hx hr hc
   cases b1
   ·cases b2
    ·go_wp2
     go_meet
     case rel => exact ⟨by rw [HG.out]; rfl, Below.refl _ _⟩
    ·go_wp2_with (go_at_call 160; refine (HZ.out _).mono ?_; rintro e w1 ⟨rfl, hb1⟩)
     go_meet
     case rel => exact ⟨by rw [HG.out]; rfl, hb1⟩
   ·go_wp2
    go_meet
    case rel => exact ⟨by rw [HG.out]; rfl, Below.refl _ _⟩
  ·have h00 : s.size = 0 := by omega
   go_wp2
   go_meet
   case rel => exact ⟨by rw [show toL s = [] from List.eq_nil_of_length_eq_zero h00]; rfl, Below.refl _ _⟩
 case rest =>
  obtain ⟨rfl, hb⟩ := hcut
  obtain ⟨sg, hsg⟩ : ∃ b, signT (toL s) = b := ⟨_, rfl⟩
  have HL := Lib.hid (show (∃ c r, sg = true ∧ toL s = c :: r) ∨ sg = false by
   cases hl : toL s with
   | nil => rw [hl] at hsg; exact .inr hsg.symm
   | cons c r => cases sg with
    | true => exact .inl ⟨c, r, rfl, rfl⟩
    | false => exact .inr rfl)
  rw [hsg]
  have HSG := Lib.hid hsg
  have HB := Lib.hid hb
  clear hsg hb
  go_upto_if 24 with (fail)
  go_cut [0, 4] (fun v0 v4 w2 => ∃ (t : ByteArray) (v : Int), v0 = .string t ∧ v4 = .int .i64 v ∧ t.size ≤ 4294967296 ∧ numL (toL s) = numT (toL t) v ∧ Below w.heap.size w w2)
  case first =>
   rcases HL.out with ⟨c, r, rfl, e⟩ | rfl
   ·have h0 : 1 ≤ s.size := by rw [← toL_len, e]; simp
    go_wp2
    go_meet
    case rel => exact ⟨_, 2, rfl, rfl, by rw [ext_all e, ofL_size]; have := congrArg List.length e; rw [toL_len] at this; simp at this; omega, by unfold numL; rw [if_pos HSG.out, ext_all e, e]; rfl, HB.out⟩
   ·go_wp2
    go_meet
    case rel => exact ⟨s, 1, rfl, rfl, hs, by unfold numL; rw [if_neg (by rw [HSG.out]; decide)], HB.out⟩
  case rest =>
   obtain ⟨t, v, rfl, rfl, ht, hn, hb⟩ := hcut
   have HN := Lib.hid hn
   have HB2 := Lib.hid hb
   clear hn hb HB HSG HL
   cases hnd : t.toList.isEmpty with
   | true =>
    have he : toL t = [] := by rw [← toList_toL]; simpa using hnd
    go_wp2
    refine bodyPost_ret (results_list (rs := [.tmp 2, .tmp 3]) rfl (by simp) (.tmp (.tmp .nil))) rfl ?_
    exact ⟨by rw [HN.out, he]; rfl, HB2.out⟩
   | false =>
   have hne : toL t ≠ [] := by rw [← toList_toL]; simpa using hnd
   go_wp2
   clear hnd
   go_loopw [5, 31] (fun v5 v31 wr => ∃ i n : Nat, v5 = .int .i64 (n : Int) ∧ n = min (val ((toL t).take i)) 1099511627776 ∧ v31 = .int .i64 (i : Int) ∧ i ≤ t.size ∧ (∀ c ∈ (toL t).take i, dig c = true) ∧ Below w.heap.size w wr) (fun _ v31 _ => t.size - (intOf v31).toNat)
   case atStart => exact ⟨0, 0, rfl, rfl, rfl, Nat.zero_le _, by simp, HB2.out⟩
   case round =>
    obtain ⟨i, n, rfl, hnv, rfl, hi, hd, hb⟩ := hrel
    have HV := Lib.hid hnv
    have HD := Lib.hid hd
    have HB := Lib.hid hb
    have hn : n ≤ 1099511627776 := by omega
    clear hnv hd hb HB2
    by_cases h : i < t.size
    ·have HT := Lib.hid (take_at t i h)
     cases hg : dig t[i] with
     | true =>
      have h48 : 48 ≤ t[i].toNat ∧ t[i].toNat ≤ 57 := by unfold dig at hg; simpa using hg
      have HX := Lib.hid (show min (val ((toL t).take (i + 1))) 1099511627776 = min (10 * n + (t[i].toNat - 48)) 1099511627776 by rw [HT.out, val_snocM, ← HV.out])
      have HG := Lib.hid (show ∀ c ∈ (toL t).take (i + 1), dig c = true from fun c h' => by rw [HT.out] at h'; rcases List.mem_append.1 h' with h1 | h1; exact HD.out c h1; rw [List.mem_singleton.1 h1]; exact hg)
      have HDC := Lib.hid (fun w => digit_c t[i] w)
      rw [hg] at HDC
      clear HT HV HD hg
      go_wp2_with (go_at_call 141; refine (HDC.out _).mono ?_; rintro e w1 ⟨rfl, hb1⟩; have HB1 := Lib.hid (below_step HB.out hb1); clear hb1)
      exact ⟨⟨i + 1, min (10 * n + (t[i].toNat - 48)) 1099511627776, by congr 1; split <;> omega, HX.out.symm, rfl, h, HG.out, HB1.out⟩, by simp [intOf]; omega⟩
     | false =>
      have HX := Lib.hid (show (toL t).all dig = false from List.all_eq_false.2 ⟨t[i], List.getElem_mem (l := toL t) h, by simp [hg]⟩)
      have HDC := Lib.hid (fun w => digit_c t[i] w)
      rw [hg] at HDC
      clear HT hg
      go_wp2_with (go_at_call 141; refine (HDC.out _).mono ?_; rintro e w1 ⟨rfl, hb1⟩; have HB1 := Lib.hid (below_step HB.out hb1); clear hb1)
      refine bodyPost_ret (results_list (rs := [.tmp 2, .tmp 3]) rfl (by simp) (.tmp (.tmp .nil))) rfl ?_
      exact ⟨by rw [HN.out]; unfold numT; rw [if_neg hne, if_neg (by rw [HX.out]; decide)]; rfl, HB1.out⟩
    ·obtain rfl : i = t.size := by omega
     have HA := Lib.hid (show (toL t).all dig = true from List.all_eq_true.2 fun c h => HD.out c (by rw [take_all]; exact h))
     go_wp2
     refine bodyPost_ret (results_list (rs := [.tmp 2, .tmp 3]) rfl (by simp) (.tmp (.tmp .nil))) rfl ?_
     exact ⟨by rw [HN.out]; unfold numT; rw [if_neg hne, if_pos HA.out, HV.out, take_all]; rfl, HB.out⟩
theorem num_ok (t : Txt) : 0 ≤ (numL t).2 ∧ ((numL t).2 = 1 → Digits t ∧ (numL t).1 = (min (val t) 1099511627776 : Nat)) := by
 have h : ∀ (t : Txt) (v : Int), numT t v = (0, 0) ∨ (Digits t ∧ numT t v = (((min (val t) 1099511627776 : Nat) : Int), v)) := fun t v => by
  unfold numT
  by_cases h0 : t = []
  ·rw [if_pos h0]; exact .inl rfl
  ·rw [if_neg h0]
   by_cases h1 : t.all dig = true
   ·rw [if_pos h1]; exact .inr ⟨⟨h0, by simpa using h1⟩, rfl⟩
   ·rw [if_neg h1]; exact .inl rfl
 unfold numL
 split
 ·rcases h t.tail 2 with h | ⟨_, h⟩ <;> rw [h] <;> simp
 ·rcases h t 1 with h | ⟨h1, h⟩ <;> rw [h]
  ·simp
  ·exact ⟨by simp, fun _ => ⟨h1, rfl⟩⟩
theorem step_c (s : ByteArray) (hs : s.size ≤ 4294967296) : ∃ n v : Int, 0 ≤ v ∧ (v = 1 → Digits (toL s) ∧ n = val (toL s) ∧ 0 < n ∧ n < 1099511627776) ∧
  ∀ w, Calls Tryz.prog 144 #[.string s] w fun e w' => e = .returned (.tuple #[.int .i64 n, .int .i64 v]) ∧ Below w.heap.size w w' := by
 obtain ⟨h0, h1⟩ := num_ok (toL s)
 have hc := fun w => number_c s hs w
 generalize numL (toL s) = q at *
 obtain ⟨n, v⟩ := q
 have HC := Lib.hid hc
 have HQ := Lib.hid h1
 simp only at h0 HQ
 clear hc h1
 obtain ⟨b1, e1⟩ : ∃ b, (v == 0) = b := ⟨_, rfl⟩
 obtain ⟨b2, e2⟩ : ∃ b, (n == 0) = b := ⟨_, rfl⟩
 obtain ⟨b3, e3⟩ : ∃ b, (n == 1099511627776) = b := ⟨_, rfl⟩
 refine ⟨if b1 || b2 then 0 else if b3 then 0 else n, if b1 || b2 then 0 else if b3 then 2 else v, ?_, ?_, fun w => ?_⟩
 ·split
  ·decide
  ·split
   ·decide
   ·exact h0
 ·intro h
  cases b1 <;> cases b2 <;> cases b3 <;> simp at h ⊢
  obtain ⟨k1, k2⟩ := HQ.out h
  simp at e2 e3
  exact ⟨k1, by omega, by omega, by omega⟩
 ·go_enter Tryz.func144, Tryz.ntmps144
  cases b1 <;> cases b2 <;> cases b3
  all_goals
   go_wp2_with (go_at_call 154; refine (HC.out _).mono ?_; rintro e w1 ⟨rfl, hb1⟩)
   refine bodyPost_ret (results_list (rs := [.tmp 2, .tmp 3]) rfl (by simp) (.tmp (.tmp .nil))) rfl ?_
   exact ⟨rfl, hb1⟩
theorem upper_c (c : UInt8) (w : World) : Calls Tryz.prog 166 #[.int .u8 (c.toNat : Int)] w fun e w' => e = .returned (.int .u8 ((up c).toNat : Int)) ∧ Drawn0 w w' :=
 spec_cronUpper.calls _ ((up c).toNat : Int) _ (upper_f c)
theorem same_c (s t : ByteArray) (hs : s.size ≤ 4294967296) (ht : t.size ≤ 4294967296) (w : World) : Calls Tryz.prog 158 #[.string s, .string t] w fun e w' => e = .returned (.bool (sameL (toL s) (toL t))) ∧ Below w.heap.size w w' := by
 go_enter Tryz.func158, Tryz.ntmps158
 by_cases hn : s.size = t.size
 ·have hn' : ((s.size : Int) != (t.size : Int)) = false := by simp; omega
  go_wp2
  clear hn'
  go_loopw [13] (fun v13 wr => ∃ i : Nat, v13 = .int .i64 (i : Int) ∧ i ≤ s.size ∧ sameL (toL s) (toL t) = sameL ((toL s).drop i) ((toL t).drop i) ∧ Below w.heap.size w wr) (fun v13 _ => s.size - (intOf v13).toNat)
  case atStart => exact ⟨0, rfl, Nat.zero_le _, rfl, Below.refl _ _⟩
  case round =>
   obtain ⟨i, rfl, hi, hq, hb⟩ := hrel
   have HB := Lib.hid hb
   clear hb
   by_cases h : i < s.size
   ·have h2 : i < t.size := by omega
    rw [List.drop_eq_getElem_cons (l := toL s) (i := i) h, List.drop_eq_getElem_cons (l := toL t) (i := i) h2, sameL_cons] at hq
    have HQ := Lib.hid (show sameL (toL s) (toL t) = if up s[i] = up t[i] then sameL ((toL s).drop (i + 1)) ((toL t).drop (i + 1)) else false from hq)
    clear hq
    obtain ⟨b, hc⟩ : ∃ b, (((up s[i]).toNat : Int) != ((up t[i]).toNat : Int)) = b := ⟨_, rfl⟩
    have HC := Lib.hid hc
    go_upto_region 6 with (fail)
    refine wp_region_det (F := ?F1) (by kernel_rfl) 26 rfl 9 [(16, .string s), (17, .int .i64 (i : Int)), (18, .int .u8 (s[i].toNat : Int)), (19, .int .u8 ((up s[i]).toNat : Int)), (20, .string t), (21, .int .i64 (i : Int)), (22, .int .u8 (t[i].toNat : Int)), (23, .int .u8 ((up t[i]).toNat : Int)), (24, .bool b)] ?hF1 (by kernel_rfl) (Below w.heap.size w) (fun _ _ h hb => below_step h hb) HB.out.drew ?_ ?_
    case hF1 =>
     simp only [List.foldl_cons, List.foldl_nil, List.setIfInBounds_toArray, List.set_cons_zero, List.set_cons_succ]
     rfl
    ·and_intros
     all_goals first | exact trivial | intro _ w3 h3
     all_goals
      have hb := Below.refl w3.heap.size w3
      change Oper.wp _ _ _ _ _ _
      go_simp
     all_goals
      refine (upper_c _ _).mono ?_
      rintro e w4 ⟨rfl, hb⟩
      exact ⟨rfl, hb.below⟩
    intro w3 h3
    show Exit.then _ _ .normal _ w3
    clear HB hc
    cases b with
    | false =>
     go_wp2
     exact ⟨⟨i + 1, rfl, h, by rw [HQ.out, if_pos (UInt8.toNat_inj.1 (by have := HC.out; simp at this; omega))], h3⟩, by simp [intOf]; omega⟩
    | true =>
     go_wp2
     go_ret
     exact ⟨by rw [HQ.out, if_neg (fun h => by have := HC.out; rw [h] at this; simp at this)]; rfl, h3⟩
   ·obtain rfl : i = s.size := by omega
    have HQ := Lib.hid hq
    clear hq
    go_wp2
    go_ret
    exact ⟨by rw [HQ.out, show (toL s).drop s.size = [] from List.drop_length, show (toL t).drop s.size = [] by rw [hn]; exact List.drop_length]; rfl, HB.out⟩
 ·have hn' : ((s.size : Int) != (t.size : Int)) = true := by simp; omega
  have HF := Lib.hid (show sameL (toL s) (toL t) = false by
   cases h : sameL (toL s) (toL t) with
   | false => rfl
   | true => exact absurd (sameL_len _ _ h) hn)
  go_wp2
  go_ret
  exact ⟨by rw [HF.out]; rfl, Below.refl _ _⟩
theorem name_c (kind : Int) (hk : kind = 4 ∨ kind = 5) (v : Nat) (h0 : low kind ≤ v) (h1 : (v : Int) ≤ high kind) (w : World) : Calls Tryz.prog 159 #[.int .i64 kind, .int .i64 (v : Int)] w fun e w' => e = .returned (.string (ofL (nameL kind v))) ∧ Below w.heap.size w w' := by
 have hl := fun w => spec_CronLow.calls kind (low kind) w (low_f kind)
 have hh := fun w => spec_CronHigh.calls kind (high kind) w (high_f kind)
 have HL := Lib.hid hl
 have HH := Lib.hid hh
 clear hl hh
 have hv : (kind = 4 ∧ (v = 1 ∨ v = 2 ∨ v = 3 ∨ v = 4 ∨ v = 5 ∨ v = 6 ∨ v = 7 ∨ v = 8 ∨ v = 9 ∨ v = 10 ∨ v = 11 ∨ v = 12)) ∨ (kind = 5 ∧ (v = 0 ∨ v = 1 ∨ v = 2 ∨ v = 3 ∨ v = 4 ∨ v = 5 ∨ v = 6)) := by
  rcases hk with rfl | rfl <;> simp [low, high] at h0 h1 ⊢ <;> omega
 clear hk h0 h1
 rcases hv with ⟨rfl, rfl | rfl | rfl | rfl | rfl | rfl | rfl | rfl | rfl | rfl | rfl | rfl⟩ | ⟨rfl, rfl | rfl | rfl | rfl | rfl | rfl | rfl⟩
 all_goals
  go_enter Tryz.func159, Tryz.ntmps159
  go_wp2_with (first | (go_at_call 114; refine (HL.out _).mono ?_; rintro e w1 ⟨rfl, ⟨nd, rfl⟩⟩) | (go_at_call 115; refine (HH.out _).mono ?_; rintro e w1 ⟨rfl, ⟨nd, rfl⟩⟩))
  go_ret
  exact ⟨rfl, pw_below_drewN (Below.refl _ _) _⟩
theorem value_c (kind : Int) (e : Txt) (hs : e.length ≤ 4294967296) : ∃ r v : Int, 0 ≤ v ∧ (v = 1 → ValR kind e r) ∧ ∀ w, Calls Tryz.prog 153 #[.int .i64 kind, .string (ofL e)] w fun e w' => e = .returned (.tuple #[.int .i64 r, .int .i64 v]) ∧ Below w.heap.size w w' := by
 obtain ⟨n0, n1⟩ := num_ok e
 have HNC := Lib.hid (fun w => number_c (ofL e) hs w)
 rw [toL_ofL] at HNC
 obtain ⟨k, hk⟩ := (foreign_f (ofL e) hs).rounds
 rw [toL_ofL] at hk
 have HFC := Lib.hid (fun w => spec_cronForeign.calls k (ofL e) _ w hk)
 generalize foreign e = fo at *
 generalize numL e = q at *
 obtain ⟨n, x⟩ := q
 simp only at n0 n1 HNC
 clear hk
 by_cases hkind : kind = 4 ∨ kind = 5
 ·obtain ⟨r, v, hA, hB⟩ : ∃ r v : Int, (∀ u : Nat, Named kind e u → (∀ x < u, ¬ Named kind e x) → r = u ∧ v = 1) ∧ ((∀ u, ¬ Named kind e u) → r = (if fo then 0 else n) ∧ v = if fo then 2 else x) := by
   by_cases h : ∃ u, Named kind e u ∧ ∀ x < u, ¬ Named kind e x
   ·obtain ⟨u, h1, h2⟩ := h
    refine ⟨u, 1, fun u' h3 h4 => ⟨?_, rfl⟩, fun h => absurd h1 (h u)⟩
    rcases Nat.lt_trichotomy u u' with h5 | h5 | h5
    ·exact absurd h1 (h4 _ h5)
    ·rw [h5]
    ·exact absurd h3 (h2 _ h5)
   ·exact ⟨_, _, fun u h1 h2 => absurd ⟨u, h1, h2⟩ h, fun _ => ⟨rfl, rfl⟩⟩
  have hv : (∃ u, Named kind e u ∧ r = (u : Nat) ∧ v = 1) ∨ ((∀ u, ¬ Named kind e u) ∧ r = (if fo then 0 else n) ∧ v = if fo then 2 else x) := by
   by_cases h : ∃ u, Named kind e u
   ·obtain ⟨u, h1, h2⟩ : ∃ u, Named kind e u ∧ ∀ x < u, ¬ Named kind e x := by
     obtain ⟨u, hu⟩ := h
     induction u using Nat.strongRecOn with
     | ind u ih =>
      by_cases h2 : ∃ x < u, Named kind e x
      ·obtain ⟨x, h3, h4⟩ := h2; exact ih x h3 h4
      ·exact ⟨u, hu, fun x h3 h4 => h2 ⟨x, h3, h4⟩⟩
    exact .inl ⟨u, h1, hA u h1 h2⟩
   ·exact .inr ⟨fun u hu => h ⟨u, hu⟩, hB fun u hu => h ⟨u, hu⟩⟩
  refine ⟨r, v, ?_, ?_, fun w => ?_⟩
  ·rcases hv with ⟨_, _, _, rfl⟩ | ⟨_, _, rfl⟩
   ·decide
   ·split
    ·decide
    ·exact n0
  ·intro h
   rcases hv with ⟨u, h1, h2, _⟩ | ⟨h1, h2, h3⟩
   ·exact .inl ⟨u, h2, h1⟩
   ·cases fo
    ·subst h2 h3; exact .inr ⟨h1, n1 h⟩
    ·subst h3; cases h
  have HA := Lib.hid hA
  have HB := Lib.hid hB
  have hh : high kind ≤ 12 := by rcases hkind with rfl | rfl <;> decide
  have HL := Lib.hid (fun w => spec_CronLow.calls kind (low kind) w (low_f kind))
  have HH := Lib.hid (fun w => spec_CronHigh.calls kind (high kind) w (high_f kind))
  obtain ⟨lo, hlo, hlow⟩ : ∃ lo : Nat, low kind = lo ∧ ∀ u : Nat, Named kind e u → lo ≤ u := by
   rcases hkind with rfl | rfl
   ·exact ⟨1, rfl, fun u hu => by have := hu.2.1; simp [low] at this; omega⟩
   ·exact ⟨0, rfl, fun u hu => Nat.zero_le _⟩
  clear hA hB hv
  rw [hlo] at HL
  go_enter Tryz.func153, Tryz.ntmps153
  have hk4 : (kind == 4) = true ∨ ((kind == 4) = false ∧ (kind == 5) = true) := by rcases hkind with rfl | rfl <;> simp
  have HS := Lib.hid (fun (u : Nat) (h0 : low kind ≤ u) (h1 : (u : Int) ≤ high kind) => And.intro (fun w => name_c kind hkind u h0 h1 w) (fun w => same_c (ofL (nameL kind u)) (ofL e) (by rw [ofL_size]; unfold nameL; rw [List.length_drop, List.length_take]; omega) hs w))
  have HK := Lib.hid hkind
  clear hkind
  rcases hk4 with g4 | ⟨g4, g5⟩
  all_goals
   go_wp2_with (first | (go_at_call 114; refine (HL.out _).mono ?_; rintro e w1 ⟨rfl, ⟨nd, rfl⟩⟩))
   go_loopw [7] (fun v7 wr => ∃ u : Nat, v7 = .int .i64 (u : Int) ∧ lo ≤ u ∧ (∀ x < u, ¬ Named kind e x) ∧ Below w.heap.size w wr) (fun v7 _ => 13 - (intOf v7).toNat)
   case atStart => exact ⟨lo, rfl, Nat.le_refl _, fun x hx h => by have := hlow x h; omega, pw_below_drewN (Below.refl _ _) _⟩
   case round =>
    obtain ⟨u, rfl, hu, hno, hb⟩ := hrel
    have HNO := Lib.hid hno
    have HBW := Lib.hid hb
    clear hno hb
    by_cases hle : (u : Int) ≤ high kind
    ·obtain ⟨hnm, hsm⟩ := HS.out u (by rw [hlo]; omega) hle
     obtain ⟨b, hbs⟩ : ∃ b, sameL (toL (ofL (nameL kind u))) (toL (ofL e)) = b := ⟨_, rfl⟩
     rw [hbs] at hsm
     have HNM := Lib.hid hnm
     have HSM := Lib.hid hsm
     have HBS := Lib.hid hbs
     clear hnm hsm hbs
     cases b
     all_goals go_wp2_with (first | (go_at_call 115; refine (HH.out _).mono ?_; rintro e w1 ⟨rfl, ⟨nd, rfl⟩⟩) | (go_at_call 159; refine (HNM.out _).mono ?_; rintro e w1 ⟨rfl, hb1⟩; have HB1 := Lib.hid (below_step (pw_below_drewN HBW.out _) hb1); clear hb1) | (go_at_call 158; refine (HSM.out _).mono ?_; rintro e w2 ⟨rfl, hb2⟩; have HB2 := Lib.hid (below_step HB1.out hb2); clear hb2))
     ·have HN2 := Lib.hid (show ∀ x < u + 1, ¬ Named kind e x from fun x hx h => by
       rcases Nat.lt_or_eq_of_le (Nat.le_of_lt_succ hx) with h1 | rfl
       ·exact HNO.out x h1 h
       ·have := h.2.2.2; rw [← toL_ofL (nameL kind x), ← toL_ofL e, HBS.out] at this; cases this)
      exact ⟨⟨u + 1, rfl, by omega, HN2.out, HB2.out⟩, by simp [intOf]; omega⟩
     ·refine bodyPost_ret (results_list (rs := [.tmp 4, .tmp 5]) rfl (by simp) (.tmp (.tmp .nil))) rfl ?_
      obtain ⟨rfl, rfl⟩ := HA.out u ⟨HK.out, by rw [hlo]; omega, hle, HBS.out⟩ HNO.out
      exact ⟨rfl, HB2.out⟩
    ·obtain ⟨rfl, rfl⟩ := HB.out fun x hx => HNO.out x (by have := hx.2.2.1; omega) hx
     cases fo
     all_goals
      go_wp2_with (first | (go_at_call 115; refine (HH.out _).mono ?_; rintro e w1 ⟨rfl, ⟨nd, rfl⟩⟩) | (go_at_call 27; refine (HFC.out _).mono ?_; rintro e w2 ⟨rfl, ⟨nd, rfl⟩⟩) | (go_at_call 154; refine (HNC.out _).mono ?_; rintro e w3 ⟨rfl, hb3⟩; have HB3 := Lib.hid hb3; clear hb3))
      refine bodyPost_ret (results_list (rs := [.tmp 4, .tmp 5]) rfl (by simp) (.tmp (.tmp .nil))) rfl ?_
      first | exact ⟨rfl, pw_below_drewN HBW.out _⟩ | exact ⟨rfl, below_step (pw_below_drewN HBW.out _) HB3.out⟩
 ·have g4 : (kind == 4) = false := by simp; exact fun h => hkind (.inl h)
  have g5 : (kind == 5) = false := by simp; exact fun h => hkind (.inr h)
  refine ⟨n, x, n0, fun h => .inr ⟨fun v hv => hkind hv.1, n1 h⟩, fun w => ?_⟩
  go_enter Tryz.func153, Tryz.ntmps153
  go_wp2_with (go_at_call 154; refine (HNC.out _).mono ?_; rintro e w3 ⟨rfl, hb3⟩; have HB3 := Lib.hid hb3; clear hb3)
  refine bodyPost_ret (results_list (rs := [.tmp 4, .tmp 5]) rfl (by simp) (.tmp (.tmp .nil))) rfl ?_
  exact ⟨rfl, HB3.out⟩
end Go.Proofs.YtcjdideliifkhaaGreatDoor
