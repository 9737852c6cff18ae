import Derived.Deep.MidRow
import Derived.Test.YtcjdideliifkhaaGreatDoorA26
import Derived.Test.YtcjdideliifkhaaGreatDoorA16
set_option maxRecDepth 100000
set_option maxHeartbeats 16000000
namespace Go.Proofs.YtcjdideliifkhaaGreatDoor
open Go.RowKit Go.Proofs.YtcjdideliifkhaaGreatDoorW.PrintWords Go.Proofs.YtcjdideliifkhaaGreatDoorW.PrintLast Go.Proofs.YtcjdideliifkhaaGreatDoorW.PrintMore PFnCronTextAfterAnywhere
set_option linter.unusedVariables false
set_option linter.unusedSimpArgs false
def DurO (neg : Bool) (d v : Int) : Nat → Txt → Nat → Int → Prop
 | 0, _, _, _ => False
 | k + 1, l, sum, vd => l.length ≤ 4294967296 ∧ sum ≤ 4611686018427387904 ∧
  ((l = [] ∧ ((vd = 1 ∧ v = 1 ∧ d = if neg then -(sum : Int) else sum) ∨ (vd ≠ 1 ∧ d = 0 ∧ v = vd))) ∨
  (l ≠ [] ∧ ∃ (n : Nat) (rest : Txt) (tv wv : Int), n ≤ 4611686018427387904 ∧ (∀ w, Calls Tryz.prog 110 #[.string (ofL l)] w fun e w' => e = .returned (.tuple #[.int .i64 (n : Int), .string (ofL rest), .int .i64 tv]) ∧ Drawn0 w w') ∧ spec_worse.f vd tv = some wv ∧
   ((wv = 0 ∧ d = 0 ∧ v = 0) ∨ (wv ≠ 0 ∧ rest.length < l.length ∧ ((sum + n > 4611686018427387904 ∧ DurO neg d v k rest sum 2) ∨ (sum + n ≤ 4611686018427387904 ∧ DurO neg d v k rest (sum + n) wv))))))
theorem durO_ex (neg : Bool) : ∀ (m : Nat) (l : Txt), l.length < m → l.length ≤ 4294967296 → ∀ (sum : Nat) (vd : Int), sum ≤ 4611686018427387904 → 1 ≤ vd →
  ∃ (d v : Int), DurO neg d v m l sum vd ∧ 0 ≤ v ∧ (v = 1 → vd = 1 ∧ ∃ k t, SumR k l t ∧ sum + t ≤ 4611686018427387904 ∧ d = if neg then -((sum + t : Nat) : Int) else ((sum + t : Nat) : Int)) := by
 intro m
 induction m with
 | zero => intro l hl; omega
 | succ m ih =>
  intro l hm hs sum vd hsum hvd
  by_cases h0 : l = []
  ·by_cases h1 : vd = 1
   ·exact ⟨if neg then -(sum : Int) else sum, 1, ⟨hs, hsum, .inl ⟨h0, .inl ⟨h1, rfl, rfl⟩⟩⟩, by decide, fun _ => ⟨h1, 0, 0, ⟨h0, rfl⟩, by omega, by cases neg <;> simp⟩⟩
   ·exact ⟨0, vd, ⟨hs, hsum, .inl ⟨h0, .inr ⟨h1, rfl, rfl⟩⟩⟩, by omega, fun h => absurd h h1⟩
  ·obtain ⟨n, rest, v, hn, hv0, hrl, hrl2, hrel, hc⟩ := term_c (ofL l) (by rw [ofL_size]; exact hs)
   rw [toL_ofL] at hrl hrl2 hrel
   obtain ⟨wv, hwv, hwv0, hwv1⟩ := worse_f vd v (by omega) hv0
   by_cases hw0 : wv = 0
   ·exact ⟨0, 0, ⟨hs, hsum, .inr ⟨h0, n, rest, v, wv, hn, hc, hwv, .inl ⟨hw0, rfl, rfl⟩⟩⟩, by decide, fun h => by cases h⟩
   ·have hvne : v ≠ 0 := fun h => by
     subst h
     apply hw0
     unfold spec_worse.f at hwv
     split at hwv
     ·cases hwv; rfl
     ·rw [if_pos rfl] at hwv; cases hwv; rfl
    have hlt := hrl2 hvne
    by_cases hbig : sum + n > 4611686018427387904
    ·obtain ⟨d, v2, he2, h20, h21⟩ := ih rest (by omega) (by omega) sum 2 hsum (by decide)
     exact ⟨d, v2, ⟨hs, hsum, .inr ⟨h0, n, rest, v, wv, hn, hc, hwv, .inr ⟨hw0, hlt, .inl ⟨hbig, he2⟩⟩⟩⟩, h20, fun h => absurd (h21 h).1 (by decide)⟩
    ·obtain ⟨d, v2, he2, h20, h21⟩ := ih rest (by omega) (by omega) (sum + n) wv (by omega) (by omega)
     refine ⟨d, v2, ⟨hs, hsum, .inr ⟨h0, n, rest, v, wv, hn, hc, hwv, .inr ⟨hw0, hlt, .inr ⟨by omega, he2⟩⟩⟩⟩, h20, fun h => ?_⟩
     obtain ⟨g1, k, t, g2, g3, g4⟩ := h21 h
     obtain ⟨g5, g6⟩ := hwv1 g1
     refine ⟨g5, k + 1, n + t, .inr ⟨h0, n, rest, t, hrel g6, g2, rfl⟩, by omega, ?_⟩
     rw [g4, show sum + n + t = sum + (n + t) by omega]
def AftSign (neg : Bool) (t : Txt) (d v : Int) : Prop := (t = [48] ∧ d = 0 ∧ v = 1) ∨ (t = [] ∧ d = 0 ∧ v = 0) ∨ (t ≠ [48] ∧ t ≠ [] ∧ DurO neg d v (t.length + 1) t 0 1)
def strLen : Value → Nat
 | .string s => s.size
 | _ => 0
theorem dur_w (s : ByteArray) (hs : s.size ≤ 4294967296) (neg : Bool) (sg : Bool) (t : Txt) (hsg : ∀ h : 0 < s.size, (((s[0]'h).toNat : Int) == 45) = (sg && neg) ∧ (((s[0]'h).toNat : Int) == 43) = (sg && !neg)) (h0 : sg = true → 0 < s.size ∧ s.extract 1 s.size = ofL t) (h1 : sg = false → s = ofL t ∧ neg = false) (d v : Int) (hd : AftSign neg t d v) (w : World) :
  Calls Tryz.prog 78 #[.string s] w fun e w' => e = .returned (.tuple #[.int .i64 d, .int .i64 v]) ∧ Below w.heap.size w w' := by
 have HSG := Lib.hid hsg
 have H0 := Lib.hid h0
 have H1 := Lib.hid h1
 have HD := Lib.hid hd
 clear hsg h0 h1 hd
 go_enter Tryz.func78, Tryz.ntmps78
 go_upto_region 2 with (fail)
 go_cut [21] (fun v21 wc => v21 = .bool sg ∧ Drawn0 w wc)
 case first =>
  by_cases hz : 0 < s.size
  ·obtain ⟨e1, e2⟩ := HSG.out hz
   have hne : s.toList.isEmpty = false := by
    rw [toList_toL]
    cases h : toL s with
    | nil => have := congrArg List.length h; rw [toL_len, List.length_nil] at this; omega
    | cons _ _ => rfl
   cases sg <;> cases neg
   all_goals
    go_wp2
    repeat (go_quiet (fail); try go_wp2)
    go_meet
    case rel => exact ⟨rfl, by repeat (first | exact Drawn0.refl _ | apply Drawn0.step)⟩
  ·have hs0 : sg = false := by cases sg; rfl; exact absurd (H0.out rfl).1 hz
   have hne : s.toList.isEmpty = true := by
    rw [toList_toL, List.isEmpty_iff]
    exact List.eq_nil_of_length_eq_zero (by rw [toL_len]; omega)
   go_wp2
   repeat (go_quiet (fail); try go_wp2)
   go_meet
   case rel => exact ⟨by rw [hs0], by repeat (first | exact Drawn0.refl _ | apply Drawn0.step)⟩
 case rest =>
  obtain ⟨rfl, ⟨nd, rfl⟩⟩ := hcut
  go_upto_if 21 with (fail)
  go_cut [0, 4] (fun v0 v4 wc => v0 = .string (ofL t) ∧ v4 = .bool neg ∧ Drawn0 w wc)
  case first =>
   cases sg with
   | true =>
    obtain ⟨hz, hx⟩ := H0.out rfl
    obtain ⟨e1, e2⟩ := HSG.out hz
    go_wp2
    repeat (go_quiet (fail); try go_wp2)
    go_meet
    case rel => exact ⟨rfl, rfl, by repeat (first | exact Drawn0.refl _ | apply Drawn0.step)⟩
   | false =>
    obtain ⟨hx, rfl⟩ := H1.out rfl
    go_wp2
    go_meet
    case rel => exact ⟨rfl, rfl, by repeat (first | exact Drawn0.refl _ | apply Drawn0.step)⟩
  case rest =>
   obtain ⟨rfl, rfl, hdr⟩ := hcut
   have HB := hdr.below
   clear hdr H0 H1 HSG
   rename_i wc
   rcases HD.out with ⟨ht, rfl, rfl⟩ | ⟨ht, rfl, rfl⟩ | ⟨n48, ne, ho⟩
   ·have e1 : ((ofL t).toList == ([48] : List UInt8)) = true := by rw [toList_toL, toL_ofL, ht]; rfl
    clear ht
    go_wp2
    refine bodyPost_ret (results_list (rs := [.tmp 2, .tmp 3]) rfl (by simp) (.tmp (.tmp .nil))) rfl ?_; exact ⟨rfl, HB⟩
   ·have e1 : ((ofL t).toList == ([48] : List UInt8)) = false := by rw [toList_toL, toL_ofL, ht]; rfl
    have e2 : ((ofL t).toList == ([] : List UInt8)) = true := by rw [toList_toL, toL_ofL, ht]; rfl
    have e3 : (ofL t).toList.isEmpty = true := by rw [toList_toL, toL_ofL, ht]; rfl
    clear ht
    go_wp2
    refine bodyPost_ret (results_list (rs := [.tmp 2, .tmp 3]) rfl (by simp) (.tmp (.tmp .nil))) rfl ?_; exact ⟨rfl, HB⟩
   ·have e1 : ((ofL t).toList == ([48] : List UInt8)) = false := by rw [toList_toL, toL_ofL]; simpa using n48
    have e2 : ((ofL t).toList == ([] : List UInt8)) = false := by rw [toList_toL, toL_ofL]; simpa using ne
    have e3 : (ofL t).toList.isEmpty = false := by rw [toList_toL, toL_ofL]; simpa using ne
    go_wp2
    clear e1 e2 e3
    go_loopw [0, 5, 6] (fun v0 v5 v6 wr => (∃ k l sum vd, v0 = .string (ofL l) ∧ v5 = .int .i64 ((sum : Nat) : Int) ∧ v6 = .int .i64 vd ∧ DurO neg d v k l sum vd) ∧ Below w.heap.size w wr) (fun v0 _ _ _ => strLen v0)
    case atStart => exact ⟨⟨_, t, 0, 1, rfl, rfl, rfl, ho⟩, HB⟩
    case round =>
     obtain ⟨⟨k, l, sum, vd, rfl, rfl, rfl, ho⟩, hb⟩ := hrel
     clear HB
     rename_i wr
     have HB := Lib.hid hb
     clear hb
     cases k with
     | zero => exact ho.elim
     | succ k =>
      obtain ⟨hl, hsum, ho⟩ := ho
      rcases ho with ⟨hl0, ho⟩ | ⟨hl0, n, rest, tv, wv, hn, hc, hw, ho⟩
      ·have e2 : ((ofL l).toList == ([] : List UInt8)) = true := by rw [toList_toL, toL_ofL, hl0]; rfl
       have e3 : (ofL l).toList.isEmpty = true := by rw [toList_toL, toL_ofL, hl0]; rfl
       clear hl0
       rcases ho with ⟨rfl, rfl, hd⟩ | ⟨h1, rfl, rfl⟩
       ·cases neg
        all_goals
         go_wp2
         refine bodyPost_ret (results_list (rs := [.tmp 2, .tmp 3]) rfl (by simp) (.tmp (.tmp .nil))) rfl ?_; exact ⟨by first | rfl | (rw [hd]; rfl), HB.out⟩
       ·go_wp2
        refine bodyPost_ret (results_list (rs := [.tmp 2, .tmp 3]) rfl (by simp) (.tmp (.tmp .nil))) rfl ?_; exact ⟨rfl, HB.out⟩
      ·have e2 : ((ofL l).toList == ([] : List UInt8)) = false := by rw [toList_toL, toL_ofL]; simpa using hl0
       have e3 : (ofL l).toList.isEmpty = false := by rw [toList_toL, toL_ofL]; simpa using hl0
       have HC := Lib.hid hc
       have HW := Lib.hid hw
       clear hc hw
       rcases ho with ⟨rfl, rfl, rfl⟩ | ⟨hw0, hlt, ho⟩
       ·go_upto_region 11 with (go_at_call 110; refine (HC.out _).mono ?_; rintro e w4 ⟨rfl, hb4⟩; have HB4 := Lib.hid (below_step HB.out hb4.below); clear hb4)
        go_wp2_with (first  | (go_at_call 28; refine (spec_worse.calls _ _ _ _ HW.out).mono ?_; rintro e w5 ⟨rfl, hb5⟩; have HB5 := Lib.hid (below_step HB4.out hb5); clear hb5))
        refine bodyPost_ret (results_list (rs := [.tmp 2, .tmp 3]) rfl (by simp) (.tmp (.tmp .nil))) rfl ?_; exact ⟨rfl, HB5.out⟩
       ·have hr : strLen (.string (ofL rest)) < strLen (.string (ofL l)) := by show (ofL rest).size < (ofL l).size; rw [ofL_size, ofL_size]; exact hlt
        rcases ho with ⟨h1, ho⟩ | ⟨h1, ho⟩
        all_goals go_wp2_with (first | (go_at_call 110; refine (HC.out _).mono ?_; rintro e w4 ⟨rfl, hb4⟩; have HB4 := Lib.hid (below_step HB.out hb4.below); clear hb4) | (go_at_call 28; refine (spec_worse.calls _ _ _ _ HW.out).mono ?_; rintro e w5 ⟨rfl, hb5⟩; have HB5 := Lib.hid (below_step HB4.out hb5); clear hb5))
        ·exact ⟨⟨⟨k, rest, sum, 2, rfl, rfl, rfl, ho⟩, HB5.out⟩, hr⟩
        ·exact ⟨⟨⟨k, rest, sum + n, wv, rfl, rfl, rfl, ho⟩, HB5.out⟩, hr⟩
theorem dur_c (s : ByteArray) (hs : s.size ≤ 4294967296) : ∃ (d v : Int), 0 ≤ v ∧ (v = 1 → DurR (toL s) d) ∧ ∀ w, Calls Tryz.prog 78 #[.string s] w fun e w' => e = .returned (.tuple #[.int .i64 d, .int .i64 v]) ∧ Below w.heap.size w w' := by
 have hj : ∀ (neg : Bool) (t : Txt), t.length ≤ s.size → ∃ (d v : Int), AftSign neg t d v ∧ 0 ≤ v ∧ (v = 1 → ((t = [48] ∧ d = 0) ∨ (t ≠ [48] ∧ t ≠ [] ∧ ∃ k s, SumR k t s ∧ s ≤ 4611686018427387904 ∧ d = if neg then -(s : Int) else (s : Int)))) := fun neg t htl => by
  by_cases h1 : t = [48]
  ·exact ⟨0, 1, .inl ⟨h1, rfl, rfl⟩, by decide, fun _ => .inl ⟨h1, rfl⟩⟩
  by_cases h2 : t = []
  ·exact ⟨0, 0, .inr (.inl ⟨h2, rfl, rfl⟩), by decide, fun h => by cases h⟩
  obtain ⟨d, v, he, hv, hr⟩ := durO_ex neg (t.length + 1) t (Nat.lt_succ_self _) (by omega) 0 1 (by decide) (by decide)
  refine ⟨d, v, .inr (.inr ⟨h1, h2, he⟩), hv, fun h => .inr ⟨h1, h2, ?_⟩⟩
  obtain ⟨_, k, t', g1, g2, g3⟩ := hr h
  exact ⟨k, t', g1, by omega, by rw [g3, Nat.zero_add]⟩
 cases hl : toL s with
 | nil =>
  have h0 : s.size = 0 := by rw [← toL_len, hl]; rfl
  obtain ⟨d, v, he, hv, hr⟩ := hj false [] (Nat.zero_le _)
  exact ⟨d, v, hv, fun h => ⟨false, [], .inr (.inr ⟨rfl, rfl, by simp, by simp⟩), hr h⟩, fun w => dur_w s hs false false [] (fun h => by omega) (fun h => by cases h) (fun _ => ⟨by rw [← hl]; rfl, rfl⟩) d v he w⟩
 | cons c t =>
  obtain ⟨a1, a2, a3, a4⟩ := at_drop (s := s) (i := 0) (by rw [List.drop_zero]; exact hl)
  have hc : (s[0]'a1) = c := by
   have h4 := bt_nat s 0 a1
   rw [a2] at h4
   have e : (toL s)[0]'(by rw [toL_len]; exact a1) = s[0] := rfl
   rw [e] at h4
   exact (UInt8.toNat_inj.1 (by omega)).symm
  have htl : t.length ≤ s.size := by have := congrArg List.length hl; rw [toL_len, List.length_cons] at this; omega
  have hext : s.extract 1 s.size = ofL t := by
   rw [extract_ofL, List.take_of_length_le (by rw [toL_len]; exact Nat.le_refl _), hl]; rfl
  have hne : ∀ k : UInt8, c ≠ k → ((c.toNat : Int) == (k.toNat : Int)) = false := fun k h => by
   have : c.toNat ≠ k.toNat := fun g => h (UInt8.toNat_inj.1 g)
   simp; omega
  by_cases h45 : c = 45
  ·obtain ⟨d, v, he, hv, hr⟩ := hj true t htl
   exact ⟨d, v, hv, fun h => ⟨true, t, .inl ⟨by rw [h45], rfl⟩, hr h⟩, fun w => dur_w s hs true true t (fun h => by rw [hc, h45]; exact ⟨rfl, rfl⟩) (fun _ => ⟨a1, hext⟩) (fun h => by cases h) d v he w⟩
  by_cases h43 : c = 43
  ·obtain ⟨d, v, he, hv, hr⟩ := hj false t htl
   exact ⟨d, v, hv, fun h => ⟨false, t, .inr (.inl ⟨by rw [h43], rfl⟩), hr h⟩, fun w => dur_w s hs false true t (fun h => by rw [hc, h43]; exact ⟨rfl, rfl⟩) (fun _ => ⟨a1, hext⟩) (fun h => by cases h) d v he w⟩
  ·obtain ⟨d, v, he, hv, hr⟩ := hj false (toL s) (Nat.le_of_eq (toL_len s))
   exact ⟨d, v, hv, fun h => ⟨false, c :: t, .inr (.inr ⟨rfl, rfl, by simpa using h45, by simpa using h43⟩), by rw [← hl]; exact hr h⟩, fun w => dur_w s hs false false (toL s) (fun h => by rw [hc]; exact ⟨hne 45 h45, hne 43 h43⟩) (fun h => by cases h) (fun _ => ⟨rfl, rfl⟩) d v he w⟩
open Go.RowKit
structure CSet where
 star : Bool
 has : Nat → Bool
def CSet.cells (s : CSet) : List Value := .bool s.star :: (List.range 63).map (fun i => .bool (s.has i))
theorem CSet.cells_len (s : CSet) : s.cells.length = 64 := by simp [CSet.cells]
theorem CSet.cells_has (s : CSet) (i : Nat) (h : i < 63) : s.cells[1 + i]? = some (.bool (s.has i)) := by
 rw [Nat.add_comm]; simp [CSet.cells, h]
abbrev CF := Nat → CSet
def fcells (F : CF) : List Value := [F 0, F 1, F 2, F 3, F 4, F 5].flatMap CSet.cells
theorem flat_at : ∀ (l : List CSet) (k j : Nat), j < 64 → (l.flatMap CSet.cells)[64 * k + j]? = (l[k]?).bind fun s => s.cells[j]? := by
 intro l
 induction l with
 | nil => intro k j hj; simp
 | cons s l ih =>
  intro k j hj
  rw [List.flatMap_cons]
  cases k with
  | zero => rw [List.getElem?_append_left (by rw [CSet.cells_len]; omega)]; simp
  | succ k =>
   rw [List.getElem?_append_right (by rw [CSet.cells_len]; omega), CSet.cells_len, show 64 * (k + 1) + j - 64 = 64 * k + j by omega, ih k j hj]
   simp
theorem flat_len : ∀ (l : List CSet), (l.flatMap CSet.cells).length = 64 * l.length := by
 intro l
 induction l with
 | nil => rfl
 | cons s l ih => rw [List.flatMap_cons, List.length_append, CSet.cells_len, ih, List.length_cons]; omega
theorem fcells_len (F : CF) : (fcells F).length = 384 := flat_len _
theorem fcells_at (F : CF) (k j : Nat) (hk : k < 6) (hj : j < 64) : (fcells F)[64 * k + j]? = (F k).cells[j]? := by
 unfold fcells
 rw [flat_at _ _ _ hj]
 have : k = 0 ∨ k = 1 ∨ k = 2 ∨ k = 3 ∨ k = 4 ∨ k = 5 := by omega
 rcases this with rfl | rfl | rfl | rfl | rfl | rfl <;> rfl
structure FAt (w : World) (b o : Nat) (F : CF) : Prop where
 size : b < w.heap.size
 star : ∀ k, k < 6 → w.cell? ⟨b, o + 64 * k, none⟩ = some (.bool (F k).star)
 has : ∀ k i, k < 6 → i < 63 → w.cell? ⟨b, o + (64 * k + 1 + i), none⟩ = some (.bool ((F k).has i))
theorem FAt.of_range {w : World} {b o : Nat} {F : CF} (hb : b < w.heap.size) (h : w.rangeAt b o (fcells F)) : FAt w b o F :=
 ⟨hb, fun k hk => h (64 * k) _ (by rw [← Nat.add_zero (64 * k), fcells_at F k 0 hk (by decide)]; rfl),
  fun k i hk hi => h _ _ (by rw [Nat.add_assoc, fcells_at F k (1 + i) hk (by omega)]; exact CSet.cells_has _ _ hi)⟩
theorem FAt.range {w : World} {b o : Nat} {F : CF} (h : FAt w b o F) : w.rangeAt b o (fcells F) := by
 intro j v hv
 have hj : j < 384 := by
  by_cases c : j < 384; exact c
  rw [List.getElem?_eq_none (by rw [fcells_len]; omega)] at hv; cases hv
 have e : j = 64 * (j / 64) + j % 64 := by omega
 rw [e, fcells_at F _ _ (by omega) (by omega)] at hv
 by_cases c : j % 64 = 0
 ·rw [c] at hv; cases hv
  have := h.star (j / 64) (by omega)
  rwa [show 64 * (j / 64) = j by omega] at this
 ·rw [show j % 64 = 1 + (j % 64 - 1) by omega, CSet.cells_has _ _ (by omega)] at hv; cases hv
  have := h.has (j / 64) (j % 64 - 1) (by omega) (by omega)
  rwa [show 64 * (j / 64) + 1 + (j % 64 - 1) = j by omega] at this
theorem FAt.below {w w' : World} {b o : Nat} {F : CF} (h : FAt w b o F) (hb : Below w.heap.size w w') : FAt w' b o F :=
 ⟨Nat.lt_of_lt_of_le h.1 hb.size, fun k hk => (hb.cell (p := ⟨b, _, none⟩) h.1).trans (h.star k hk), fun k i hk hi => (hb.cell (p := ⟨b, _, none⟩) h.1).trans (h.has k i hk hi)⟩
theorem FAt.boxed (w : World) (F : CF) (T : TypeId) : FAt (w.alloc (.cells (fcells F).toArray T)) w.heap.size 0 F :=
 FAt.of_range (by simp) fun j v hv => by
  rw [Nat.zero_add]
  simp [go_sem, hv]
abbrev fval (F : CF) : Value := .agg (fcells F).toArray
def tFits (F : CF) (t : Nat) : Bool := (F 2).has (t / 3600) && (F 1).has (t % 3600 / 60) && (F 0).has (t % 60)
def QuietT (F : CF) (a b : Nat) : Prop := ∀ t, a ≤ t → t < b → tFits F t = false
def TimeAns (F : CF) (n : Nat) : Option Nat → Prop
 | none => QuietT F n 86400
 | some t => n ≤ t ∧ t < 86400 ∧ tFits F t = true ∧ QuietT F n t
def optInt : Option Nat → Int
 | none => -1
 | some t => (t : Int)
def TimeQ (F : CF) (n : Nat) (w : World) (e : Ending) (w' : World) : Prop := (∃ r, TimeAns F n r ∧ e = .returned (.int .i64 (optInt r))) ∧ Below w.heap.size w w'
theorem time_t (F : CF) (n : Nat) (h1 : n < 86400) (w : World) :
  Calls Tryz.prog 107 #[fval F, .int .i64 (n : Int)] w (TimeQ F n w) := by
 go_enter Tryz.func107, Tryz.ntmps107
 go_wp2
 have hF := FAt.boxed w F 38
 have hB : Below w.heap.size w (w.alloc (Obj.cells (fcells F).toArray 38)) := (Below.refl _ _).alloc (Nat.le_refl _) _
 generalize w.alloc (Obj.cells (fcells F).toArray 38) = W at *
 go_loop [5] (fun h => ∃ k : Nat, n / 3600 ≤ k ∧ k ≤ 24 ∧ h = .int .i64 (k : Int) ∧ QuietT F n (3600 * k)) (fun h => 24 - (intOf h).toNat)
 case atStart => exact ⟨n / 3600, Nat.le_refl _, by omega, by simp, fun t a b => by omega⟩
 case round =>
  obtain ⟨k, hk0, hk1, rfl, hq⟩ := hrel
  by_cases hk : k < 24
  ·have hc : W.cell? ⟨w.heap.size, 129 + k, none⟩ = some (.bool ((F 2).has k)) := by have := hF.has 2 k (by decide) (by omega); simpa using this
   cases hh : (F 2).has k with
   | false =>
    rw [hh] at hc
    have hq2 : QuietT F n (3600 * (k + 1)) := fun t a b => by
     by_cases c : t < 3600 * k
     ·exact hq t a c
     ·unfold tFits; rw [show t / 3600 = k by omega, hh]; rfl
    have HQ := Lib.hid hq2
    clear hq hq2 hh
    go_wp2
    go_round
    case rel => exact ⟨k + 1, by omega, by omega, by go_num, HQ.out⟩
    case measure => simp [intOf]; omega
   | true =>
    rw [hh] at hc
    have HQ := Lib.hid hq
    have Hh := Lib.hid hh
    clear hq hh
    go_wp2
    go_loop [21] (fun v => ∃ m : Nat, m ≤ 60 ∧ v = .int .i64 (m : Int) ∧ QuietT F n (3600 * k + 60 * m)) (fun v => 60 - (intOf v).toNat)
    case atStart => exact ⟨0, by omega, rfl, HQ.out⟩
    case round =>
     obtain ⟨m, hm1, rfl, hq⟩ := hrel
     clear HQ
     by_cases hm : m < 60
     ·have hcm : W.cell? ⟨w.heap.size, 65 + m, none⟩ = some (.bool ((F 1).has m)) := by have := hF.has 1 m (by decide) (by omega); simpa using this
      have hnext : (∀ t, n ≤ t → 3600 * k + 60 * m ≤ t → t < 3600 * k + 60 * (m + 1) → tFits F t = false) → QuietT F n (3600 * k + 60 * (m + 1)) := fun h t a b => by
       by_cases c : t < 3600 * k + 60 * m
       ·exact hq t a c
       ·exact h t a (by omega) b
      cases hhm : (F 1).has m with
      | false =>
       rw [hhm] at hcm
       have HQ := Lib.hid (hnext fun t a b c => by unfold tFits; rw [show t % 3600 / 60 = m by omega, hhm]; simp)
       clear hq hnext hhm
       go_wp2
       go_round
       case rel => exact ⟨m + 1, by omega, by go_num, HQ.out⟩
       case measure => simp [intOf]; omega
      | true =>
       rw [hhm] at hcm
       have Hn := Lib.hid hnext
       have Hq := Lib.hid hq
       have Hm := Lib.hid hhm
       clear hq hnext hhm
       by_cases hp : 3600 * k + 60 * m + 59 < n
       ·go_wp2
        go_round
        case rel => exact ⟨m + 1, by omega, by go_num, Hn.out fun t a b c => by omega⟩
        case measure => simp [intOf]; omega
       ·go_wp2
        all_goals
         go_loop [8] (fun v => ∃ s : Nat, s ≤ 60 ∧ v = .int .i64 (s : Int) ∧ n ≤ 3600 * k + 60 * m + s ∧ QuietT F n (3600 * k + 60 * m + s)) (fun v => 60 - (intOf v).toNat)
         case atStart =>
          first
           | exact ⟨n - (3600 * k + 60 * m), by omega, congrArg (Value.int .i64) (by omega), by omega, fun t a b => by omega⟩
           | exact ⟨0, by omega, rfl, by omega, Hq.out⟩
         case round =>
          obtain ⟨s, hs1, rfl, hns, hq⟩ := hrel
          by_cases hs : s < 60
          ·have hcs : W.cell? ⟨w.heap.size, 1 + s, none⟩ = some (.bool ((F 0).has s)) := by have := hF.has 0 s (by decide) (by omega); simpa using this
           cases hhs : (F 0).has s with
           | false =>
            rw [hhs] at hcs
            have HQ := Lib.hid (show QuietT F n (3600 * k + 60 * m + (s + 1)) from fun t a b => by
             by_cases c : t < 3600 * k + 60 * m + s
             ·exact hq t a c
             ·unfold tFits; rw [show t % 60 = s by omega, hhs]; simp)
            clear hq hhs
            go_wp2
            go_round
            case rel => exact ⟨s + 1, by omega, by go_num, by omega, HQ.out⟩
            case measure => simp [intOf]; omega
           | true =>
            rw [hhs] at hcs
            have HQ := Lib.hid (show TimeQ F n w (.returned (.int .i64 (3600 * (k : Int) + 60 * (m : Int) + (s : Int)))) W from
             ⟨⟨some (3600 * k + 60 * m + s), ⟨hns, by omega, by unfold tFits; rw [show (3600 * k + 60 * m + s) / 3600 = k by omega, show (3600 * k + 60 * m + s) % 3600 / 60 = m by omega, show (3600 * k + 60 * m + s) % 60 = s by omega, Hh.out, Hm.out, hhs]; rfl, hq⟩, by simp [optInt]⟩, hB⟩)
            clear hq hhs
            go_wp2
            go_ret
            exact HQ.out
          ·have HQ := Lib.hid (show QuietT F n (3600 * k + 60 * (m + 1)) from fun t a b => hq t a (by omega))
           clear hq
           go_wp2
           go_round
           case rel => exact ⟨m + 1, by omega, by go_num, HQ.out⟩
           case measure => simp [intOf]; omega
     ·have HQ := Lib.hid (show QuietT F n (3600 * (k + 1)) from fun t a b => hq t a (by omega))
      clear hq
      go_wp2
      go_round
      case rel => exact ⟨k + 1, by omega, by omega, by go_num, HQ.out⟩
      case measure => simp [intOf]; omega
  ·have HQ := Lib.hid (show TimeQ F n w (.returned (.int .i64 (-1))) W from ⟨⟨none, fun t a b => hq t a (by omega), rfl⟩, hB⟩)
   clear hq
   go_wp2
   go_ret
   exact HQ.out
def bvals (n : Nat) (f : Nat → Bool) : List Value := (List.range n).map (fun i => .bool (f i))
theorem bvals_at (n : Nat) (f : Nat → Bool) (i : Nat) (h : i < n) : (bvals n f)[i]? = some (.bool (f i)) := by simp [bvals, h]
theorem bvals_len (n : Nat) (f : Nat → Bool) : (bvals n f).length = n := by simp [bvals]
theorem equal_bools (f g : Nat → Bool) (w : World) :
  (Op.equal 34 (.agg (bvals 63 f).toArray) (.agg (bvals 63 g).toArray)).run Tryz.prog w = .ok ((List.range 63).all fun i => f i == g i) w := by
 have hu : Tryz.prog.underlying 34 = some (.array 63 4) := by kernel_rfl
 unfold Op.equal
 rw [show Op.maxDepth = 9999 + 1 from rfl]
 unfold Op.equalIn
 rw [Sem.run_bind, run_underlying hu w]
 simp only [Result.andThen]
 have hs : ∀ w, (sizeOf 4).run Tryz.prog w = .ok 1 w := fun w => by kernel_rfl
 rw [Sem.run_bind, hs]
 simp only [Result.andThen]
 have hp : ∀ (h : Nat → Bool) (i : Nat), i < 63 → ∀ w, (part 4 (bvals 63 h).toArray (i * 1)).run Tryz.prog w = .ok (.bool (h i)) w := by
  intro h i hi w
  have hA : ∀ w, (isAgg 4).run Tryz.prog w = .ok false w := fun w => by kernel_rfl
  unfold part
  rw [Sem.run_bind, hA]
  simp only [Result.andThen, Bool.false_eq_true, if_false, Nat.mul_one, List.getElem?_toArray]
  rw [bvals_at 63 h i hi]
  rfl
 have he : ∀ (a b : Bool) w, (Op.equalIn 9999 4 (.bool a) (.bool b)).run Tryz.prog w = .ok (a == b) w := by
  intro a b w
  have hu4 : Tryz.prog.underlying 4 = some .bool := by kernel_rfl
  rw [show (9999 : Nat) = 9998 + 1 from rfl]
  unfold Op.equalIn
  rw [Sem.run_bind, run_underlying hu4 w]
  rfl
 have key : ∀ (m k : Nat), k + m = 63 → ∀ w, (forIn (List.range' k m) ((none : Option Bool), ()) fun i __s => do
       let __do_lift ← part 4 (bvals 63 f).toArray (i * 1)
       let __do_lift_1 ← part 4 (bvals 63 g).toArray (i * 1)
       let __do_lift ← Op.equalIn 9999 4 __do_lift __do_lift_1
       if (!__do_lift) = true then pure (ForInStep.done (some false, ())) else pure (ForInStep.yield (none, ()))).run Tryz.prog w = .ok (if (List.range' k m).all fun i => f i == g i then (none, ()) else (some false, ())) w := by
  intro m
  induction m with
  | zero => intro k _ w; simp [Sem.run_pure]
  | succ m ih =>
   intro k hk w
   rw [List.range'_succ, List.forIn_cons]
   rw [Sem.run_bind, Sem.run_bind, hp f k (by omega)]
   simp only [Result.andThen]
   rw [Sem.run_bind, hp g k (by omega)]
   simp only [Result.andThen]
   rw [Sem.run_bind, he]
   simp only [Result.andThen]
   cases hfg : f k == g k with
   | true =>
    simp only [Bool.not_true, Bool.false_eq_true, if_false, Sem.run_pure]
    rw [ih (k + 1) (by omega), List.all_cons, hfg, Bool.true_and]
   | false =>
    simp only [Bool.not_false, if_true, Sem.run_pure]
    rw [List.all_cons, hfg]
    simp [Sem.run_pure]
 rw [Sem.run_bind]
 have hr := key 63 0 rfl w
 simp only [Std.Legacy.Range.forIn_eq_forIn_range', Std.Legacy.Range.size]
 rw [show (63 - 0 + 1 - 1) / 1 = 63 from rfl, hr, ← List.range_eq_range']
 simp only [Result.andThen]
 cases (List.range 63).all fun i => f i == g i <;> rfl
theorem wpList_exec {P : Program} {ops : Array Oper} {rest : List Oper} {op : Oper} {a : Act} {w : World} {Q : Exit → Act → World → Prop} (o' : Op) (ho : op.op = o') (hgd : op.guard = none) (v : Value)
  (hx : (execOp a.eval op).run P w = .ok (.value v) w) (h : wpList P ops Q rest (a.put op.dst v) w) : wpList P ops Q (op :: rest) a w :=
 wpList_plain hgd fun _ hK => by unfold Oper.wp; rw [hx]; exact hK _ _ h
theorem exec_eql34 (ρ : Operand → Value) (op : Oper) (x y : Operand) (R : TypeId) (ho : op.op = .binOp .eql 34 x y R) (f g : Nat → Bool) (hx : ρ x = .agg (bvals 63 f).toArray) (hy : ρ y = .agg (bvals 63 g).toArray) (w : World) :
  (execOp ρ op).run Tryz.prog w = .ok (.value (.bool ((List.range 63).all fun i => f i == g i))) w := by
 have hg : (Tryz.prog.eqGuardType Tryz.prog.depth 34) = false := by kernel_rfl
 have hgd : ∀ cs ds, (eqGuard .eql 34 x y (.agg cs) (.agg ds)).run Tryz.prog w = .ok () w := by
  intro cs ds
  unfold eqGuard
  have hpr : Sem.run Tryz.prog (Sem.program Sem.pure) w = Result.ok Tryz.prog w := rfl
  simp [Sem.run_bind, program, go_sem, hpr, hg]
 unfold execOp
 rw [ho]
 simp only [hx, hy]
 rw [Sem.run_bind, Sem.run_bind, hgd]
 simp only [Result.andThen]
 have : (binOp .eql 34 (.agg (bvals 63 f).toArray) (.agg (bvals 63 g).toArray)) = (do pure (.bool (← Op.equal 34 (.agg (bvals 63 f).toArray) (.agg (bvals 63 g).toArray)))) := rfl
 rw [this, Sem.run_bind, equal_bools]
 rfl
def CSet.empty (s : CSet) : Bool := (List.range 63).all fun i => s.has i == false
theorem CSet.range_has {w : World} {b o : Nat} {s : CSet} (h : w.rangeAt b o s.cells) : w.rangeAt b (o + 1) (bvals 63 s.has) := by
 intro j v hv
 have hj : j < 63 := by
  by_cases c : j < 63; exact c
  rw [List.getElem?_eq_none (by rw [bvals_len]; omega)] at hv; cases hv
 rw [bvals_at 63 _ j hj] at hv; cases hv
 have := h (1 + j) _ (CSet.cells_has s j hj)
 rwa [show o + (1 + j) = o + 1 + j by omega] at this
def zeros64 : Array Value := (bvals 64 (fun _ => false)).toArray
theorem empty_c (s : CSet) (w : World) :
  Calls Tryz.prog 129 #[.agg s.cells.toArray] w fun e w' => e = .returned (.bool s.empty) ∧ Below w.heap.size w w' := by
 go_enter Tryz.func129, Tryz.ntmps129
 go_upto_region 1 with (fail)
 have hr : (w.alloc (Obj.cells s.cells.toArray 36)).rangeAt w.heap.size 0 s.cells := fun j v hv => by rw [Nat.zero_add]; simp [go_sem, hv]
 have hB : Below w.heap.size w (w.alloc (Obj.cells s.cells.toArray 36)) := (Below.refl _ _).alloc (Nat.le_refl _) _
 have hld := CSet.range_has hr
 generalize w.alloc (Obj.cells s.cells.toArray 36) = W at *
 clear hr
 go_wp2_with (first
  | (refine wpList_load_mid rfl 34 _ rfl w.heap.size 1 rfl (bvals 63 s.has) (.array 63 4) hld (by kernel_rfl) rfl (by rw [bvals_len]; kernel_rfl) ?_)
  | (refine wpList_exec (.build 36 #[]) rfl rfl (.agg zeros64) (by kernel_rfl) ?_)
  | (refine wpList_exec (.field 36 (.tmp 5) 1) rfl rfl (.agg (bvals 63 (fun _ => false)).toArray) (by kernel_rfl) ?_)
  | (refine wpList_exec (.binOp .eql 34 (.tmp 4) (.tmp 6) 34) rfl rfl (.bool s.empty) (exec_eql34 _ _ _ _ _ rfl _ _ rfl rfl _) ?_))
 go_ret
 exact ⟨rfl, hB⟩
theorem FAt.set {w : World} {b o : Nat} {F : CF} (h : FAt w b o F) (k : Nat) (hk : k < 6) : w.rangeAt b (o + 64 * k) (F k).cells := by
 intro j v hv
 have hj : j < 64 := by
  by_cases c : j < 64; exact c
  rw [List.getElem?_eq_none (by rw [CSet.cells_len]; omega)] at hv; cases hv
 have := h.range (64 * k + j) v (by rw [fcells_at F k j hk hj]; exact hv)
 rwa [show o + (64 * k + j) = o + 64 * k + j by omega] at this
theorem wpList_load_g {P : Program} {ops : Array Oper} {rest : List Oper} {op : Oper} {a : Act} {w : World} {Q : Exit → Act → World → Prop} (hw : Region.wanted op (yielded ops a.tmps) = true) (ty : TypeId) (x : Operand) (ho : op.op = .load ty x)
  (b o : Nat) (hx : a.eval x = .pointer (some ⟨b, o, none⟩)) (cs : List Value) (d : TypeDesc) (hc : w.rangeAt b o cs)
  (hu : P.underlying ty = some d) (hd : d.isRow = true) (hi : (P.info? ty).map (·.size) = some cs.length)
  (h : wpList P ops Q rest (a.put op.dst (.agg cs.toArray)) w) : wpList P ops Q (op :: rest) a w := by
 unfold wpList
 rw [if_pos hw]
 exact .inl (wp_load_mid ty x ho b o hx cs d hc hu hd hi h)
def neverB (F : CF) : Bool := (F 2).empty || (F 1).empty || (F 0).empty
theorem never_c (F : CF) (w : World) :
  Calls Tryz.prog 103 #[fval F] w fun e w' => e = .returned (.bool (neverB F)) ∧ Below w.heap.size w w' := by
 have hE := fun k w => empty_c (F k) w
 unfold neverB
 cases e2 : (F 2).empty <;> cases e1 : (F 1).empty <;> cases e0 : (F 0).empty
 all_goals
  have hE2 := hE 2
  have hE1 := hE 1
  have hE0 := hE 0
  rw [e2] at hE2
  rw [e1] at hE1
  rw [e0] at hE0
  have H2 := Lib.hid hE2
  have H1 := Lib.hid hE1
  have H0 := Lib.hid hE0
  clear hE hE2 hE1 hE0 e2 e1 e0
  go_enter Tryz.func103, Tryz.ntmps103
  go_upto_region 1 with (fail)
  have hF := FAt.boxed w F 38
  have hB : Below w.heap.size w (w.alloc (Obj.cells (fcells F).toArray 38)) := (Below.refl _ _).alloc (Nat.le_refl _) _
  generalize w.alloc (Obj.cells (fcells F).toArray 38) = W at *
  go_wp2_with (first
   | (refine wpList_load_mid rfl 36 (.tmp 3) rfl w.heap.size 128 rfl (F 2).cells _ (by simpa using hF.set 2 (by decide)) Tryz.underlying36 rfl (by rw [CSet.cells_len]; kernel_rfl) ?_)
   | (refine wpList_load_g rfl 36 (.tmp 7) rfl w.heap.size 64 rfl (F 1).cells _ (by simpa using hF.set 1 (by decide)) Tryz.underlying36 rfl (by rw [CSet.cells_len]; kernel_rfl) ?_)
   | (refine wpList_load_g rfl 36 (.tmp 12) rfl w.heap.size 0 rfl (F 0).cells _ (by simpa using hF.set 0 (by decide)) Tryz.underlying36 rfl (by rw [CSet.cells_len]; kernel_rfl) ?_)
   | (go_at_call 129; (first | (with_reducible refine (H2.out _).mono ?_) | (with_reducible refine (H1.out _).mono ?_) | (with_reducible refine (H0.out _).mono ?_)); rintro e w1 ⟨rfl, hb⟩; replace hF := hF.below hb; replace hB := hB.trans (hb.mono hB.size)))
  go_ret
  exact ⟨rfl, hB⟩
def dayF (F : CF) (d wd : Nat) : Bool := if (F 3).star || (F 5).star then (F 3).has d && (F 5).has wd else (F 3).has d || (F 5).has wd
theorem dayFits_c (F : CF) (y m : Int) (d wd : Nat) (hd : d < 63) (hw : wd < 63) (w : World) :
  Calls Tryz.prog 105 #[fval F, .agg #[.int .i64 y, .int .i64 m, .int .i64 (d : Int)], .int .i64 (wd : Int)] w fun e w' => e = .returned (.bool (dayF F d wd)) ∧ Below w.heap.size w w' := by
 go_enter Tryz.func105, Tryz.ntmps105
 go_upto_region 1 with (fail)
 have hF0 := FAt.boxed w F 38
 have hF : FAt ((w.alloc (Obj.cells (fcells F).toArray 38)).alloc (Obj.cells #[.int .i64 y, .int .i64 m, .int .i64 (d : Int)] 135)) w.heap.size 0 F := hF0.below ((Below.refl _ _).alloc (Nat.le_refl _) _)
 have hB : Below w.heap.size w ((w.alloc (Obj.cells (fcells F).toArray 38)).alloc (Obj.cells #[.int .i64 y, .int .i64 m, .int .i64 (d : Int)] 135)) := ((Below.refl _ _).alloc (Nat.le_refl _) _).alloc (by simp) _
 have hc : ((w.alloc (Obj.cells (fcells F).toArray 38)).alloc (Obj.cells #[.int .i64 y, .int .i64 m, .int .i64 (d : Int)] 135)).cell? ⟨w.heap.size + 1, 2, none⟩ = some (.int .i64 (d : Int)) := by simp [go_sem]
 generalize (w.alloc (Obj.cells (fcells F).toArray 38)).alloc (Obj.cells #[.int .i64 y, .int .i64 m, .int .i64 (d : Int)] 135) = W at *
 have h3 : W.cell? ⟨w.heap.size, 193 + d, none⟩ = some (.bool ((F 3).has d)) := by have := hF.has 3 d (by decide) hd; simpa using this
 have h5 : W.cell? ⟨w.heap.size, 321 + wd, none⟩ = some (.bool ((F 5).has wd)) := by have := hF.has 5 wd (by decide) hw; simpa using this
 have s3 : W.cell? ⟨w.heap.size, 192, none⟩ = some (.bool (F 3).star) := by have := hF.star 3 (by decide); simpa using this
 have s5 : W.cell? ⟨w.heap.size, 320, none⟩ = some (.bool (F 5).star) := by have := hF.star 5 (by decide); simpa using this
 clear hF hF0
 have i0 : (0 : Int) ≤ (d : Int) := by omega
 have i1 : (d : Int) < 63 := by omega
 have i2 : (0 : Int) ≤ (wd : Int) := by omega
 have i3 : (wd : Int) < 63 := by omega
 go_quiet (fail)
 rename_i nq
 have hBq : Below w.heap.size w (W.drewN nq) := by
  have : ∀ n, Below w.heap.size w (W.drewN n) := by
   intro n
   induction n with
   | zero => exact hB
   | succ n ih => exact ih.drew
  exact this nq
 have dc : ∀ n (p : Addr), (W.drewN n).cell? p = W.cell? p := by
  intro n
  induction n with
  | zero => intro p; rfl
  | succ n ih => intro p; rw [← ih p]; rfl
 rw [← dc nq] at s3 s5
 clear h3 h5 hc dc
 cases e3 : (F 3).star <;> cases e5 : (F 5).star <;> cases d3 : (F 3).has d
 all_goals
  rw [e3] at s3
  rw [e5] at s5
  go_wp2
  go_ret
  exact ⟨by simp [dayF, e3, e5, d3], hBq⟩
end Go.Proofs.YtcjdideliifkhaaGreatDoor
