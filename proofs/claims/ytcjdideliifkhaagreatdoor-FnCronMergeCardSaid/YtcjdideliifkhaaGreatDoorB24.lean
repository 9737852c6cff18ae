import Derived.Test.YtcjdideliifkhaaGreatDoorB23
set_option maxRecDepth 100000
set_option maxHeartbeats 16000000
namespace Go.Proofs.YtcjdideliifkhaaGreatDoor
open Go.RowKit Go.Proofs.YtcjdideliifkhaaGreatDoorW.PrintWords Go.Proofs.YtcjdideliifkhaaGreatDoorW.PrintLast Go.Proofs.YtcjdideliifkhaaGreatDoorW.PrintMore PFnCronTextAfterAnywhere
set_option linter.unusedVariables false
set_option linter.unusedSimpArgs false
def cnt (o : Int) : Nat → Nat
 | 0 => 0
 | k + 1 => cnt o k + if takes o k then 1 else 0
theorem cnt_le (o : Int) : ∀ k, cnt o k ≤ k := by
 intro k; induction k with
 | zero => exact Nat.le_refl _
 | succ k ih => unfold cnt; split <;> omega
def missO (o : Int) : Int := if Go.bits .and .i64 o 2 = 0 then (if Go.bits .and .i64 o 128 = 0 then -1 else 5) else 0
theorem missO_f (o : Int) : spec_CronMayMiss.f o = some (missO o) := by
 unfold spec_CronMayMiss.f missO; split
 ·split <;> rfl
 ·rfl
def missN (o : Int) (n : Nat) : Option Int := if n = cnt o 6 then some (-1) else if missO o < 0 ∨ (n : Int) ≠ (cnt o 6 : Int) - 1 then none else some (missO o)
def used (o m : Int) (k : Nat) : Bool := takes o k && decide ((k : Int) ≠ m)
def nxt (o m : Int) : Nat → Nat
 | 0 => 0
 | k + 1 => nxt o m k + if used o m k then 1 else 0
def dflt (k : Nat) : Txt := if k ≤ 2 then [48] else [42]
theorem dflt_f (k : Nat) : spec_CronDefault.f (k : Int) = some (ofL (dflt k)) := by
 unfold spec_CronDefault.f dflt
 by_cases h : k ≤ 2
 ·rw [if_pos (by omega), if_pos h]; rfl
 ·rw [if_neg (by omega), if_neg h]; rfl
def fullAt (o m : Int) (words : List Txt) (k : Nat) : Txt := if used o m k then words.getD (nxt o m k) [] else dflt k
def full (o m : Int) (words : List Txt) : List Txt := (List.range 6).map (fullAt o m words)
theorem miss_ok : ((List.range 512).all fun o => (Go.bits .and .i64 (o : Int) 2 == 0 || takes (o : Int) 0) && (Go.bits .and .i64 (o : Int) 128 == 0 || takes (o : Int) 5)) = true := by kernel_rfl
theorem nxt_none (o : Int) : ∀ k, nxt o (-1) k = cnt o k := by
 intro k; induction k with
 | zero => rfl
 | succ k ih => unfold nxt cnt; rw [ih]; unfold used; rw [decide_eq_true (by omega), Bool.and_true]
theorem nxt_mono (o m : Int) : ∀ (d k : Nat), nxt o m k ≤ nxt o m (k + d) := by
 intro d; induction d with
 | zero => intro k; exact Nat.le_refl _
 | succ d ih => intro k; have := ih k; rw [show k + (d + 1) = (k + d) + 1 by omega]; simp only [nxt]; omega
theorem nxt_0 (o : Int) (h : takes o 0 = true) : nxt o 0 6 + 1 = cnt o 6 := by
 simp only [nxt, cnt, used, h]
 simp
 omega
theorem nxt_5 (o : Int) (h : takes o 5 = true) : nxt o 5 6 + 1 = cnt o 6 := by
 simp only [nxt, cnt, used, h]
 simp
theorem nxt_fits (o : Nat) (ho : o < 512) (n : Nat) (m : Int) (h : missN (o : Int) n = some m) : nxt (o : Int) m 6 = n := by
 unfold missN at h
 split at h
 ·rename_i h1; cases h; rw [nxt_none]; exact h1.symm
 ·split at h
  ·cases h
  ·rename_i h1 h2
   cases h
   have hok := List.all_eq_true.1 miss_ok o (by simpa using ho)
   simp only [Bool.and_eq_true, Bool.or_eq_true, beq_iff_eq] at hok
   have h3 : (n : Int) = (cnt (o : Int) 6 : Int) - 1 := by omega
   have h4 : ¬ missO (o : Int) < 0 := by omega
   unfold missO at h4 ⊢
   split
   ·rename_i c1
    rw [if_pos c1] at h4
    split
    ·rename_i c2; rw [if_pos c2] at h4; omega
    ·rename_i c2
     have := nxt_5 (o : Int) (hok.2.resolve_left c2)
     omega
   ·rename_i c1
    have := nxt_0 (o : Int) (hok.1.resolve_left c1)
    omega
def tcells (f : Nat → Txt) : List Value := (List.range 6).map fun k => .string (ofL (f k))
theorem tcells_set (f : Nat → Txt) (i : Nat) (x : Txt) : (tcells f).toArray.setIfInBounds i (.string (ofL x)) = (tcells (fun k => if k = i then x else f k)).toArray := by
 rw [List.setIfInBounds_toArray]
 congr 1
 unfold tcells
 apply List.ext_getElem?
 intro j
 rw [List.getElem?_set]
 by_cases c : i = j
 ·subst c
  by_cases h : i < 6
  ·simp [h]
  ·simp [h]
 ·rw [if_neg c]
  by_cases h : j < 6
  ·simp [h]; rw [if_neg (fun e => c e.symm)]
  ·simp [h]
theorem tcells_at (f : Nat → Txt) (i : Nat) (hi : i < 6) : (tcells f)[i]? = some (.string (ofL (f i))) := by simp [tcells, hi]
theorem wpList_make_texts {ops : Array Oper} {rest : List Oper} {op : Oper} {a : Act} {w : World} {Q : Exit → Act → World → Prop} (hgd : op.guard = none) (ho : op.op = .makeSlice 50 (.const (.int .i64 6)) (.const (.int .i64 6)))
  (h : ∀ g, g = w.heap.size → ∀ w1, w1.heap[g]? = some (.cells (tcells fun _ => []).toArray 9 (0, 0)) → Below w.heap.size w w1 → g < w1.heap.size → wpList Tryz.prog ops Q rest (a.put op.dst (.slice (some ⟨g, 0, none⟩) 6 6)) w1) : wpList Tryz.prog ops Q (op :: rest) a w := by
 refine wpList_make_full w hgd _ _ 50 ho w.heap.size 9 info9 (.string ⟨#[]⟩) 1 (by kernel_rfl) (by kernel_rfl) (by kernel_rfl) (by kernel_rfl) .i64 .i64 6 6 6 rfl rfl rfl rfl (by rw [show info9.bytes = 16 by kernel_rfl]; decide) (by decide) (Nat.le_refl _) ?_
 intro w1 hown hgr
 have hb : Below w.heap.size w w1 := (Below.refl _ _).grown hgr (Nat.le_refl _) (fun k hk => by cases hk)
 obtain ⟨h1, h2 | ⟨g, cap, cur, e, hg, hc, hn, hcap, hsz, ht⟩⟩ := hown
 ·cases h2.2
 ·have e1 : g = w.heap.size ∧ cap = 6 := by injection e with e1 e2 e3; injection e1 with e1; injection e1 with e1 _ _; exact ⟨e1.symm, e3.symm⟩
  obtain ⟨rfl, rfl⟩ := e1
  have hcur : cur = (tcells fun _ => []).toArray := by
   apply Array.ext'
   rw [List.take_of_length_le (by simp [hsz])] at ht
   rw [ht]
   kernel_rfl
  rw [hcur] at hc
  exact h _ rfl _ hc hb (blk_lt hc)
def FillQ (o : Nat) (words : List Txt) (w : World) (e : Ending) (w' : World) : Prop :=
 (match missN (o : Int) words.length with
  | none => e = .returned (.tuple #[.slice none 0 0, .bool false])
  | some m => ∃ v, e = .returned (.tuple #[v, .bool true]) ∧ Strs w' v ((full (o : Int) m words).map ofL)) ∧ Below w.heap.size w w'
def FillL (o m : Int) (words : List Txt) (w : World) (g : Nat) (nv iv : Value) (wr : World) : Prop :=
 ∃ (i : Nat) (f : Nat → Txt), iv = .int .i64 (i : Int) ∧ nv = .int .i64 (nxt o m i : Int) ∧ i ≤ 6 ∧ wr.heap[g]? = some (.cells (tcells f).toArray 9 (0, 0)) ∧ Below w.heap.size w wr ∧ ∀ k, k < i → f k = fullAt o m words k
theorem fill_c (o : Nat) (ho : o < 512) (h2 : spec_CronTwoOptional.f (o : Int) = some false) (words : List Txt) (hwl : words.length < 4294967296) (vp : Value) (w : World) (hrow : Strs w vp (words.map ofL)) :
  Calls Tryz.prog 44 #[vp, .int .i64 (o : Int)] w (FillQ o words w) := by
 obtain ⟨A, c, rfl, hr⟩ := hrow
 have hlen : (words.map ofL).length = words.length := by simp
 rw [hlen]
 have hcell : ∀ i (hi : i < words.length), ∃ ad, A = some ad ∧ w.cell? (ad.add i) = some (.string (ofL words[i])) := fun i hi => by
  obtain ⟨ad, e, h⟩ := hr i (by simpa using hi)
  exact ⟨ad, e, by rw [h]; simp⟩
 have HC := Lib.hid hcell
 clear hr hcell hlen
 go_enter Tryz.func44, Tryz.ntmps44
 go_wp2_with (go_at_call 21; refine (spec_CronTwoOptional.calls (o : Int) false _ h2).mono ?_; rintro e w1 ⟨rfl, hb1⟩; have HB1 := Lib.hid hb1.below; clear hb1)
 go_loopw [6, 14] (fun tv iv wr => ∃ i : Nat, i ≤ 6 ∧ iv = .int .i64 (i : Int) ∧ tv = .int .i64 (cnt (o : Int) i : Int) ∧ Below w.heap.size w wr) (fun _ iv _ => (6 - intOf iv).toNat)
 case atStart => exact ⟨0, by decide, rfl, rfl, HB1.out⟩
 case round =>
  obtain ⟨i, hi, rfl, rfl, hB⟩ := hrel
  clear HB1
  by_cases hlt : i < 6
  ·have hc := cnt_le (o : Int) i
   have hsucc : cnt (o : Int) (i + 1) = cnt (o : Int) i + if takes (o : Int) i then 1 else 0 := rfl
   have HS := Lib.hid hsucc
   have HB := Lib.hid hB
   clear hsucc hB
   cases ht : takes (o : Int) i with
   | true =>
    go_wp2_with (go_at_call 80; refine (takes_c (o : Int) i hlt _).mono ?_; rw [ht]; rintro e w2 ⟨rfl, hb2⟩; have HB2 := Lib.hid (below_step HB.out hb2); clear hb2)
    exact ⟨⟨i + 1, by omega, by simp, by rw [HS.out, ht]; simp, HB2.out⟩, by simp [intOf]; omega⟩
   | false =>
    go_wp2_with (go_at_call 80; refine (takes_c (o : Int) i hlt _).mono ?_; rw [ht]; rintro e w2 ⟨rfl, hb2⟩; have HB2 := Lib.hid (below_step HB.out hb2); clear hb2)
    exact ⟨⟨i + 1, by omega, by simp, by rw [HS.out, ht]; simp, HB2.out⟩, by simp [intOf]; omega⟩
  ·have hi6 : i = 6 := by omega
   subst hi6
   have HB := Lib.hid hB
   clear hB
   go_upto_if 28 with (go_at_call 81; refine (spec_CronMayMiss.calls (o : Int) (missO (o : Int)) _ (missO_f _)).mono ?_; rintro e w3 ⟨rfl, hb3⟩; have HB3 := Lib.hid (below_step HB.out hb3.below); clear hb3)
   by_cases hm : missN (o : Int) words.length = none
   ·have hn : ¬ words.length = cnt (o : Int) 6 ∧ (missO (o : Int) < 0 ∨ (words.length : Int) ≠ (cnt (o : Int) 6 : Int) - 1) := by
     unfold missN at hm
     split at hm
     ·cases hm
     ·rename_i h1
      split at hm
      ·rename_i h2; exact ⟨h1, h2⟩
      ·cases hm
    obtain ⟨hn1, hn2⟩ := hn
    have hn1' : ((words.length : Int) == (cnt (o : Int) 6 : Int)) = false := by simp; omega
    have hle := cnt_le (o : Int) 6
    have HQ := Lib.hid (show ∀ w', Below w.heap.size w w' → FillQ o words w (.returned (.tuple #[.slice none 0 0, .bool false])) w' from fun w' h => ⟨by rw [hm], h⟩)
    have hcn : (0 : Int) ≤ (cnt (o : Int) 6 : Int) := by omega
    generalize cnt (o : Int) 6 = cn at *
    clear hm
    by_cases hneg : missO (o : Int) < 0
    ·clear hn2
     generalize missO (o : Int) = mo at *
     go_wp2
     go_ret2
     exact HQ.out _ HB3.out
    ·have hn2' : ((words.length : Int) != (cn : Int) - 1) = true := by simpa using hn2.resolve_left hneg
     generalize missO (o : Int) = mo at *
     go_wp2
     go_ret2
     exact HQ.out _ HB3.out
   ·obtain ⟨m, hm⟩ := Option.ne_none_iff_exists'.1 hm
    go_cut [8] (fun v8 wc => v8 = .int .i64 m ∧ Below w.heap.size w wc)
    case first =>
     by_cases hn1 : words.length = cnt (o : Int) 6
     ·have hm1 : m = -1 := by unfold missN at hm; rw [if_pos hn1] at hm; cases hm; rfl
      have hn1' : ((words.length : Int) == (cnt (o : Int) 6 : Int)) = true := by simp; omega
      subst hm1
      clear hm hn1
      go_wp2
      go_meet
      case rel => exact ⟨rfl, HB3.out⟩
     ·unfold missN at hm
      rw [if_neg hn1] at hm
      split at hm
      ·cases hm
      ·rename_i h2
       cases hm
       have hneg : ¬ missO (o : Int) < 0 := fun h => h2 (.inl h)
       have hn2' : ((words.length : Int) != (cnt (o : Int) 6 : Int) - 1) = false := by
        simp; by_cases c : (words.length : Int) = (cnt (o : Int) 6 : Int) - 1
        ·exact c
        ·exact absurd (.inr c) h2
       have hn1' : ((words.length : Int) == (cnt (o : Int) 6 : Int)) = false := by simp; omega
       have hle := cnt_le (o : Int) 6
       have hcn : (0 : Int) ≤ (cnt (o : Int) 6 : Int) := by omega
       clear h2 hn1
       generalize cnt (o : Int) 6 = cn at *
       generalize missO (o : Int) = mo at *
       go_wp2
       go_meet
       case rel => exact ⟨rfl, HB3.out⟩
    case rest =>
     obtain ⟨rfl, hB⟩ := hcut
     have HB := Lib.hid hB
     clear hB
     have hfit := nxt_fits o ho _ _ hm
     have HFIT := Lib.hid hfit
     have HMM := Lib.hid hm
     clear hfit hm
     go_upto_region 16 with (refine wpList_make_texts rfl rfl ?_; intro g hg w4 hblk hb4 hlt4; have hgw : w.heap.size ≤ g := (by have := HB.out.size; omega); have HB4 := Lib.hid (below_step HB.out hb4); clear hg hlt4 hb4)
     have hL := Lib.hid (show FillL (o : Int) m words w g (.int .i64 0) (.int .i64 0) w4 from ⟨0, fun _ => [], rfl, rfl, by decide, hblk, HB4.out, fun k hk => absurd hk (by omega)⟩)
     clear hblk HB4 HB
     go_wp2
     go_loopw [10, 41] (fun nv iv wr => FillL (o : Int) m words w g nv iv wr) (fun _ iv _ => (6 - intOf iv).toNat)
     case atStart => exact hL.out
     case round =>
      obtain ⟨i, f, rfl, rfl, hi, hblk, hB, hsem⟩ := hrel
      clear hL
      have hsucc : nxt (o : Int) m (i + 1) = nxt (o : Int) m i + if used (o : Int) m i then 1 else 0 := rfl
      have HSEM := Lib.hid hsem
      have HB := Lib.hid hB
      have HS := Lib.hid hsucc
      have HBK := Lib.hid hblk
      clear hsem hB hsucc hblk
      by_cases hlt : i < 6
      ·have hi0 : (0 : Int) ≤ (i : Int) := by omega
       have hi1 : (i : Int) < 6 := by omega
       have hc0 : wr.cell? ⟨g, i, none⟩ = some (.string (ofL (f i))) := by rw [blk_cell HBK.out i, List.getElem?_toArray]; exact tcells_at f i hlt
       have hf0 : wr.frozen? ⟨g, i, none⟩ = false := blk_frozen HBK.out i
       go_upto_region 21 with (go_at_call 82; refine (spec_CronDefault.calls (i : Int) (ofL (dflt i)) _ (dflt_f i)).mono ?_; rintro e w5 ⟨rfl, hb5⟩; have HB5 := Lib.hid (below_step HB.out hb5.below); have HBK5 := Lib.hid (blk_below HBK.out hb5.below); have hc5 : w5.cell? ⟨g, i, none⟩ = some (.string (ofL (f i))) := (by rw [blk_cell HBK5.out i, List.getElem?_toArray]; exact tcells_at f i hlt); have hf5 : w5.frozen? ⟨g, i, none⟩ = false := blk_frozen HBK5.out i; clear hb5)
       have hB6 : Below w.heap.size w (w5.setCell ⟨g, i, none⟩ (.string (ofL (dflt i)))) := HB5.out.setCell hgw _
       have hK6 : (w5.setCell ⟨g, i, none⟩ (.string (ofL (dflt i)))).heap[g]? = some (.cells (tcells (fun k => if k = i then dflt i else f k)).toArray 9 (0, 0)) := blk_put HBK5.out i _ (tcells_set f i _)
       have HB6 := Lib.hid hB6
       have HK6 := Lib.hid hK6
       clear hB6 hK6 hc0 hf0 hc5 hf5 HB5 HBK5 HB HBK
       generalize w5.setCell ⟨g, i, none⟩ (.string (ofL (dflt i))) = W6 at *
       have hni : nxt (o : Int) m i ≤ i := by
        have : ∀ k, nxt (o : Int) m k ≤ k := by
         intro k; induction k with
         | zero => exact Nat.le_refl _
         | succ k ih => unfold nxt; split <;> omega
        exact this i
       have hend : ∀ (X : Txt) (W : World) (nn : Int), X = fullAt (o : Int) m words i → nn = (nxt (o : Int) m (i + 1) : Int) → W.heap[g]? = some (.cells (tcells (fun k => if k = i then X else f k)).toArray 9 (0, 0)) → Below w.heap.size w W →
         FillL (o : Int) m words w g (.int .i64 nn) (.int .i64 ((i : Int) + 1)) W := fun X W nn h1 h2 h3 h4 =>
        ⟨i + 1, _, by simp, by rw [h2], by omega, h3, h4, fun k hk => by
         by_cases e : k = i
         ·subst e; rw [if_pos rfl, h1]
         ·rw [if_neg e]; exact HSEM.out k (by omega)⟩
       have HE := Lib.hid hend
       clear hend
       cases ht : takes (o : Int) i with
       | false =>
        have hu : used (o : Int) m i = false := by unfold used; rw [ht]; rfl
        have HU := Lib.hid hu
        clear hu
        go_wp2_with (go_at_call 80; refine (takes_c (o : Int) i hlt _).mono ?_; rw [ht]; rintro e w7 ⟨rfl, hb7⟩; have HB7 := Lib.hid (below_step HB6.out hb7); have HK7 := Lib.hid (blk_below HK6.out hb7); clear hb7)
        exact ⟨HE.out (dflt i) _ _ (by unfold fullAt; rw [HU.out]; rfl) (by rw [HS.out, HU.out]; simp) HK7.out HB7.out, by simp [intOf]; omega⟩
       | true =>
        by_cases hmi : (i : Int) = m
        ·have hu : used (o : Int) m i = false := by unfold used; rw [decide_eq_false (by simpa using hmi), Bool.and_false]
         have HU := Lib.hid hu
         have hne : ((i : Int) != m) = false := by simp [hmi]
         clear hu
         have HMI := Lib.hid hmi
         clear hmi
         go_wp2_with (go_at_call 80; refine (takes_c (o : Int) i hlt _).mono ?_; rw [ht]; rintro e w7 ⟨rfl, hb7⟩; have HB7 := Lib.hid (below_step HB6.out hb7); have HK7 := Lib.hid (blk_below HK6.out hb7); clear hb7)
         exact ⟨HE.out (dflt i) _ _ (by unfold fullAt; rw [HU.out]; rfl) (by rw [HS.out, HU.out]; simp) HK7.out HB7.out, by simp [intOf]; omega⟩
        ·have hu : used (o : Int) m i = true := by unfold used; rw [ht, decide_eq_true hmi]; rfl
         have HU := Lib.hid hu
         have hne : ((i : Int) != m) = true := by simpa using hmi
         have hnl : nxt (o : Int) m i < words.length := by
          have h1 := nxt_mono (o : Int) m (6 - (i + 1)) (i + 1)
          rw [show i + 1 + (6 - (i + 1)) = 6 by omega, HFIT.out, HS.out, hu] at h1
          simp at h1; omega
         clear hu hmi
         obtain ⟨ad, rfl, hcw⟩ := HC.out _ hnl
         have HCW := Lib.hid hcw
         have HX := Lib.hid (show words[nxt (o : Int) m i] = fullAt (o : Int) m words i by unfold fullAt; rw [HU.out, if_pos rfl, List.getD_eq_getElem?_getD, List.getElem?_eq_getElem hnl]; rfl)
         have hNX := Lib.hid (show ((nxt (o : Int) m i : Int) + 1) = (nxt (o : Int) m (i + 1) : Int) by rw [HS.out, HU.out]; simp)
         clear hcw
         generalize words[nxt (o : Int) m i] = X at *
         have hn0 : (0 : Int) ≤ (nxt (o : Int) m i : Int) := by omega
         have hn1 : (nxt (o : Int) m i : Int) < (words.length : Int) := by omega
         generalize nxt (o : Int) m i = nx at *
         go_wp2_with (go_at_call 80; refine (takes_c (o : Int) i hlt _).mono ?_; rw [ht]; rintro e w7 ⟨rfl, hb7⟩; have HB7 := Lib.hid (below_step HB6.out hb7); have HK7 := Lib.hid (blk_below HK6.out hb7); have hcw7 := pw_cell_below HB7.out HCW.out; have hc7 : w7.cell? ⟨g, i, none⟩ = some (.string (ofL (dflt i))) := (by rw [blk_cell HK7.out i, List.getElem?_toArray, tcells_at _ i hlt, if_pos rfl]); have hf7 : w7.frozen? ⟨g, i, none⟩ = false := blk_frozen HK7.out i; clear hb7)
         refine ⟨HE.out X _ _ HX.out hNX.out ?_ (HB7.out.setCell hgw _), by simp [intOf]; omega⟩
         have := blk_put HK7.out i (.string (ofL X)) (tcells_set _ i X)
         rw [this]
         congr 4
         funext k
         by_cases e : k = i
         ·rw [if_pos e, if_pos e]
         ·rw [if_neg e, if_neg e, if_neg e]
      ·have hi6 : i = 6 := by omega
       subst hi6
       have hrow : Strs wr (.slice (some ⟨g, 0, none⟩) 6 6) ((full (o : Int) m words).map ofL) := by
        refine ⟨some ⟨g, 0, none⟩, 6, by simp [full], fun k hk => ⟨_, rfl, ?_⟩⟩
        have hk6 : k < 6 := by simpa [full] using hk
        rw [Addr.add_lit, Nat.zero_add, blk_cell HBK.out k, List.getElem?_toArray, tcells_at f k hk6, HSEM.out k hk6]
        simp [full, hk6]
       have HR := Lib.hid hrow
       clear hrow
       go_wp2
       go_ret2
       exact ⟨by rw [HMM.out]; exact ⟨_, rfl, HR.out⟩, HB.out⟩
theorem wr (x : Int) (h0 : -9223372036854775808 ≤ x) (h1 : x ≤ 9223372036854775807) : wrap64 x = x := by unfold wrap64; omega
theorem fd (a b : Int) (hb : 0 < b) (h0 : -4000000000000000000 ≤ a) (h1 : a ≤ 4000000000000000000) : spec_floorDiv.f a b = some (a / b) := by
 unfold spec_floorDiv.f
 rw [if_neg (by omega)]
 have e := Int.mul_tdiv_add_tmod a b
 have l1 := Int.tmod_lt_of_pos a hb
 have hbd : -4000000000000000000 ≤ a.tdiv b ∧ a.tdiv b ≤ 4000000000000000000 := by
  by_cases c : 0 ≤ a
  ·have := Int.tdiv_nonneg c (Int.le_of_lt hb)
   have := Int.tdiv_le_self b c
   omega
  ·have h2 := Int.tdiv_nonneg (a := -a) (b := b) (by omega) (Int.le_of_lt hb)
   have h3 := Int.tdiv_le_self (a := -a) b (by omega)
   rw [Int.neg_tdiv] at h2 h3
   omega
 rw [wr (a.tdiv b) (by omega) (by omega)]
 by_cases c : a.tmod b < 0
 ·rw [if_pos c, wr _ (by omega) (by omega)]
  have l0 : -b < a.tmod b := by
   have := Int.tmod_lt_of_pos (-a) hb
   rw [Int.neg_tmod] at this
   omega
  congr 1
  have hmul : b * (a.tdiv b - 1) = b * a.tdiv b - b := by rw [Int.mul_sub, Int.mul_one]
  exact ((Int.ediv_emod_unique (a := a) (r := a.tmod b + b) (q := a.tdiv b - 1) hb).2 ⟨by omega, by omega, by omega⟩).1.symm
 ·rw [if_neg c]
  congr 1
  exact ((Int.ediv_emod_unique hb).2 ⟨by omega, by omega, l1⟩).1.symm
theorem ys_f (y : Int) (h0 : -100000 ≤ y) (h1 : y ≤ 100000) : spec_CronYearStart.f y = some (Cal.ys y) := by
 unfold spec_CronYearStart.f
 rw [wr (y - 1) (by omega) (by omega), fd _ 4 (by decide) (by omega) (by omega), Option.bind_some, fd _ 100 (by decide) (by omega) (by omega), Option.bind_some, fd _ 400 (by decide) (by omega) (by omega), Option.bind_some]
 congr 1
 unfold Cal.ys
 have b1 : -30000 ≤ (y - 1) / 4 ∧ (y - 1) / 4 ≤ 30000 := by omega
 have b2 : -30000 ≤ (y - 1) / 100 ∧ (y - 1) / 100 ≤ 30000 := by omega
 have b3 : -30000 ≤ (y - 1) / 400 ∧ (y - 1) / 400 ≤ 30000 := by omega
 generalize (y - 1) / 4 = q1 at *
 generalize (y - 1) / 100 = q2 at *
 generalize (y - 1) / 400 = q3 at *
 rw [wr (365 * (y - 1)) (by omega) (by omega), wr (365 * (y - 1) + q1) (by omega) (by omega), wr (365 * (y - 1) + q1 - q2) (by omega) (by omega), wr (365 * (y - 1) + q1 - q2 + q3) (by omega) (by omega), wr _ (by omega) (by omega)]
theorem leap_f (y : Int) : spec_CronLeap.f y = some (Cal.leap y) := by
 have t : ∀ k : Int, 0 < k → (Int.tmod y k = 0 ↔ y % k = 0) := fun k hk => by
  rw [← Int.dvd_iff_tmod_eq_zero, Int.dvd_iff_emod_eq_zero]
 unfold spec_CronLeap.f Cal.leap
 by_cases c4 : y % 4 = 0
 ·rw [if_pos ((t 4 (by decide)).2 c4)]
  by_cases c1 : y % 100 = 0
  ·rw [if_pos ((t 100 (by decide)).2 c1)]
   by_cases c40 : y % 400 = 0
   ·have := (t 400 (by decide)).2 c40; simp [c4, c1, c40, this]
   ·have : ¬ Int.tmod y 400 = 0 := fun h => c40 ((t 400 (by decide)).1 h)
    have e1 : (Int.tmod y 400 == 0) = false := by simpa using this
    have e2 : (y % 400 == 0) = false := by simpa using c40
    simp [c4, c1, e1, e2]
  ·rw [if_neg (fun h => c1 ((t 100 (by decide)).1 h))]
   have e2 : (y % 100 != 0) = true := by simpa using c1
   simp [c4, e2]
 ·rw [if_neg (fun h => c4 ((t 4 (by decide)).1 h))]
  have e2 : (y % 4 == 0) = false := by simpa using c4
  simp [e2]
theorem md_f (y m : Int) : spec_CronMonthDays.f y m = some (Cal.mdays y m) := by
 unfold spec_CronMonthDays.f Cal.mdays
 rw [leap_f]
 simp only [Option.bind_some]
 by_cases c2 : m = 2
 ·simp only [if_pos c2]; cases Cal.leap y <;> rfl
 ·simp only [if_neg c2]
  by_cases c4 : m = 4
  ·simp [c4]
  ·by_cases c6 : m = 6
   ·simp [c6]
   ·by_cases c9 : m = 9
    ·simp [c9]
    ·by_cases c11 : m = 11
     ·simp [c11]
     ·simp [c4, c6, c9, c11]
theorem weekday_f (n : Int) (h0 : -10000000 ≤ n) (h1 : n ≤ 10000000) : spec_CronWeekday.f n = some (Cal.W n) := by
 unfold spec_CronWeekday.f spec_floorMod.f
 rw [wr (n + 4) (by omega) (by omega), fd _ 7 (by decide) (by omega) (by omega), Option.bind_some]
 have b1 : -3000000 ≤ (n + 4) / 7 ∧ (n + 4) / 7 ≤ 3000000 := by omega
 rw [wr (7 * ((n + 4) / 7)) (by omega) (by omega), wr _ (by omega) (by omega), Option.bind_some]
 congr 1
 unfold Cal.W
 omega
theorem drawn_below {w w' : World} (h : Drawn0 w w') : Below w.heap.size w w' := by
 obtain ⟨n, rfl⟩ := h
 exact ⟨rfl, rfl, rfl, Nat.le_refl _, fun _ _ => rfl⟩
theorem dateOf_c (n : Int) (h0 : -719162 ≤ n) (h1 : n ≤ 10000000) (w : World) : Calls Tryz.prog 70 #[.int .i64 n] w fun e w' => e = .returned (.agg #[.int .i64 (Cal.Y n), .int .i64 (Cal.M n), .int .i64 (Cal.D n)]) ∧ Below w.heap.size w w' := by
 have b := Cal.Y_bounds n
 have yb : -40000 ≤ Cal.Y n ∧ Cal.Y n ≤ 40000 := by have h := b; unfold Cal.ys at h; omega
 obtain ⟨v1, v2, v3, v4⟩ := Cal.date_valid n
 have e := Cal.date_day n
 unfold Cal.day at e
 have hst : -40000 ≤ (if n < 0 then 1970 + n / 365 - 1 else 1970 + n / 366) ∧ (if n < 0 then 1970 + n / 365 - 1 else 1970 + n / 366) ≤ Cal.Y n := by
  have h2 := b.2
  unfold Cal.ys at h2
  generalize Cal.Y n = yy at *
  split <;> omega
 have hup : ∀ y, y ≤ Cal.Y n → (Cal.ys (y + 1) ≤ n ↔ y < Cal.Y n) := fun y hy => ⟨fun h => by
   rcases Int.lt_or_eq_of_le hy with c | rfl
   ·exact c
   ·have := b.2; omega, fun h => by
   rcases Int.lt_or_eq_of_le (show y + 1 ≤ Cal.Y n by omega) with c | c
   ·have h1 := b.1; have := Cal.ys_lt c; split at this <;> omega
   ·rw [c]; exact b.1⟩
 have hmo : ∀ m, 1 ≤ m → m ≤ Cal.M n → Cal.before (Cal.Y n) m ≤ 366 ∧ (0 ≤ Cal.before (Cal.Y n) m) ∧ (Cal.mdays (Cal.Y n) m ≤ n - Cal.ys (Cal.Y n) - Cal.before (Cal.Y n) m ↔ m < Cal.M n) ∧ Cal.before (Cal.Y n) (m + 1) = Cal.before (Cal.Y n) m + Cal.mdays (Cal.Y n) m ∧ 0 < Cal.mdays (Cal.Y n) m ∧ Cal.mdays (Cal.Y n) m ≤ 31 := fun m hm hm2 => by
  have hb := Cal.before_succ (Cal.Y n) m hm (by omega)
  have h12 := Cal.before_mono (Cal.Y n) (show (1 : Int) ≤ m by omega)
  have h13 := Cal.before_mono (Cal.Y n) (show m ≤ 13 by omega)
  rw [Cal.before_13] at h13
  rw [Cal.before_1] at h12
  have hp := Cal.mdays_pos (Cal.Y n) m
  refine ⟨by split at h13 <;> omega, h12, ⟨fun h => ?_, fun h => ?_⟩, by omega, by omega, by unfold Cal.mdays; repeat (first | split | omega)⟩
  ·rcases Int.lt_or_eq_of_le hm2 with c | rfl
   ·exact c
   ·omega
  ·have := Cal.before_mono (Cal.Y n) (show m + 1 ≤ Cal.M n by omega); omega
 have hfd := fun (b : Int) (hb : 0 < b) (w : World) => spec_floorDiv.calls n b (n / b) w (fd n b hb (by omega) (by omega))
 have f6 := hfd 366 (by decide)
 have f5 := hfd 365 (by decide)
 have hq : -4000 ≤ n / 366 ∧ n / 366 ≤ 40000 ∧ -4000 ≤ n / 365 ∧ n / 365 ≤ 40000 := by omega
 generalize n / 366 = q6 at *
 generalize n / 365 = q5 at *
 have F6 := Lib.hid f6
 have F5 := Lib.hid f5
 clear hfd f6 f5
 have HY := Lib.hid (fun (y : Int) (a : -100000 ≤ y) (c : y ≤ 100000) (w : World) => spec_CronYearStart.calls y (Cal.ys y) w (ys_f y a c))
 have HM := Lib.hid (fun (m : Int) (w : World) => spec_CronMonthDays.calls (Cal.Y n) m _ w (md_f _ _))
 have HUP := Lib.hid hup
 have HMO := Lib.hid hmo
 have HE := Lib.hid e
 have HB := Lib.hid b
 clear hup hmo e b v4
 have K0 := blk_new w (.cells #[.int .i64 0, .int .i64 0, .int .i64 0] 135)
 have B0 := below_alloc (Below.refl w.heap.size w) (.cells #[.int .i64 0, .int .i64 0, .int .i64 0] 135)
 go_enter Tryz.func70, Tryz.ntmps70
 go_upto_region 1 with (fail)
 generalize w.alloc (.cells #[.int .i64 0, .int .i64 0, .int .i64 0] 135) = W at *
 have HK := Lib.hid (fun (d : Nat) => show (W.drewN d).heap[w.heap.size]? = some (.cells #[.int .i64 0, .int .i64 0, .int .i64 0] 135 (0, 0)) ∧ Below w.heap.size w (W.drewN d) from ⟨K0, pw_below_drewN B0 d⟩)
 clear K0 B0
 by_cases c : n < 0
 all_goals
  first | rw [if_pos c] at hst | rw [if_neg c] at hst
  go_wp2_with (first | (go_at_call 71; first | (refine (F6.out _).mono ?_; clear F6; rintro e w' ⟨rfl, ⟨nd, rfl⟩⟩) | (refine (F5.out _).mono ?_; rintro e w' ⟨rfl, ⟨nd, rfl⟩⟩)))
  go_loopw [3] (fun v3 wr => ∃ y : Int, v3 = .int .i64 y ∧ -40000 ≤ y ∧ y ≤ Cal.Y n ∧ wr.heap[w.heap.size]? = some (.cells #[.int .i64 0, .int .i64 0, .int .i64 0] 135 (0, 0)) ∧ Below w.heap.size w wr) (fun v3 _ => (Cal.Y n - intOf v3).toNat)
  case atStart => exact ⟨_, rfl, hst.1, hst.2, HK.out _⟩
  case round =>
   obtain ⟨y, rfl, hy1, hy2, hk, hb⟩ := hrel
   obtain ⟨Y, hY⟩ : ∃ Y, Cal.Y n = Y := ⟨_, rfl⟩
   have hup := HUP.out y hy2
   rw [hY] at hy2 yb hup
   have HYC := Lib.hid hY
   have HY1 := Lib.hid (HY.out (y + 1) (by omega) (by omega))
   have HK2 := Lib.hid (fun (d : Nat) => show (wr.drewN d).heap[w.heap.size]? = some (.cells #[.int .i64 0, .int .i64 0, .int .i64 0] 135 (0, 0)) ∧ Below w.heap.size w (wr.drewN d) from ⟨hk, pw_below_drewN hb d⟩)
   obtain ⟨z, hz⟩ : ∃ z, Cal.ys (y + 1) = z := ⟨_, rfl⟩
   rw [hz] at HY1 hup
   clear hk hb hz hst hq HK
   by_cases hlt : y < Y
   ·have hle : z ≤ n := hup.2 hlt
    clear hup
    go_wp2_with (first | (go_at_call 101; refine (HY1.out _).mono ?_; rintro e w' ⟨rfl, ⟨nd, rfl⟩⟩))
    exact ⟨⟨y + 1, rfl, by omega, by rw [HYC.out]; omega, HK2.out _⟩, by rw [HYC.out]; simp [intOf]; omega⟩
   ·have hle : ¬ z ≤ n := fun h => hlt (hup.1 h)
    obtain rfl : y = Y := by omega
    clear hup hlt
    have HY0 := Lib.hid (HY.out y (by omega) (by omega))
    have he := HE.out
    rw [HYC.out] at he
    have hmo := HMO.out
    rw [HYC.out] at hmo
    have hb0 := (hmo 1 (by decide) v1)
    obtain ⟨o, ho⟩ : ∃ o, Cal.ys y = o := ⟨_, rfl⟩
    rw [ho] at HY0 he hmo hb0
    rw [Cal.before_1] at hb0
    have hob : n - 1000 ≤ o ∧ o ≤ n + 1000 := by
     have h1 := (hmo _ v1 (Int.le_refl _)).1
     have h2 := (hmo _ v1 (Int.le_refl _)).2.1
     have h3 := (hmo _ v1 (Int.le_refl _)).2.2.2.2.2
     have h4 : Cal.D n ≤ Cal.mdays y (Cal.M n) := by have := (Cal.date_valid n).2.2.2; rw [HYC.out] at this; exact this
     omega
    have HMO2 := Lib.hid hmo
    have HE2 := Lib.hid he
    have HMD := Lib.hid HM.out
    rw [HYC.out] at HMD
    clear hmo he hb0 HMO HE HM HB HUP ho
    go_wp2_with (first | (go_at_call 101; first | (refine (HY1.out _).mono ?_; clear HY1; rintro e w' ⟨rfl, ⟨nd, rfl⟩⟩) | (refine (HY0.out _).mono ?_; rintro e w' ⟨rfl, ⟨nd, rfl⟩⟩)))
    go_loopw [4, 5] (fun v4 v5 wr => ∃ m : Int, v5 = .int .i64 m ∧ v4 = .int .i64 (n - o - Cal.before y m) ∧ 1 ≤ m ∧ m ≤ Cal.M n ∧ wr.heap[w.heap.size]? = some (.cells #[.int .i64 0, .int .i64 0, .int .i64 0] 135 (0, 0)) ∧ Below w.heap.size w wr) (fun _ v5 _ => (Cal.M n - intOf v5).toNat)
    case atStart => exact ⟨1, rfl, by rw [Cal.before_1]; simp, by decide, v1, HK2.out _⟩
    case round =>
     obtain ⟨m, rfl, rfl, hm1, hm2, hk, hb⟩ := hrel
     obtain ⟨g1, g2, g3, g4, g5, g6⟩ := HMO2.out m hm1 hm2
     have HM1 := Lib.hid (HMD.out m)
     have HK3 := Lib.hid (fun (d : Nat) => show (wr.drewN d).heap[w.heap.size]? = some (.cells #[.int .i64 0, .int .i64 0, .int .i64 0] 135 (0, 0)) ∧ Below w.heap.size w (wr.drewN d) from ⟨hk, pw_below_drewN hb d⟩)
     have HG4 := Lib.hid g4
     have HMN := Lib.hid (show m = Cal.M n → n - o - Cal.before y m + 1 = Cal.D n from fun h => by have := HE2.out; rw [← h] at this; omega)
     clear hk hb HK2 g4
     generalize Cal.before y m = bm at *
     generalize Cal.mdays y m = md at *
     by_cases hlt : m < Cal.M n
     ·have hle : md ≤ n - o - bm := g3.2 hlt
      clear g3
      go_wp2_with (first | (go_at_call 102; refine (HM1.out _).mono ?_; rintro e w' ⟨rfl, ⟨nd, rfl⟩⟩))
      exact ⟨⟨m + 1, rfl, by rw [HG4.out]; congr 1; omega, by omega, by omega, HK3.out _⟩, by simp [intOf]; omega⟩
     ·have hle : ¬ md ≤ n - o - bm := fun h => hlt (g3.1 h)
      have HMM := Lib.hid (show m = Cal.M n by omega)
      clear g3
      go_wp2_with (first | (go_at_call 102; refine (HM1.out _).mono ?_; clear HM1; rintro e w' ⟨rfl, ⟨nd, rfl⟩⟩; obtain ⟨HKb, HBb⟩ := HK3.out nd; generalize wr.drewN nd = V at *; have HKc := Lib.hid HKb; have HBc := Lib.hid HBb; have n0 := blk_cell HKb 0; have n1 := blk_cell HKb 1; have n2 := blk_cell HKb 2; have f0 := blk_frozen HKb 0; have f1 := blk_frozen HKb 1; have f2 := blk_frozen HKb 2; clear HKb HBb HK3))
      exact bodyPost_ret (results_cell_row rfl _ _ w.heap.size 135 _ (0, 0) _ rfl (blk_put (blk_put (blk_put HKc.out 0 (.int .i64 y) (cs' := #[.int .i64 y, .int .i64 0, .int .i64 0]) rfl) 1 (.int .i64 m) (cs' := #[.int .i64 y, .int .i64 m, .int .i64 0]) rfl) 2 (.int .i64 (n - o - bm + 1)) rfl) Tryz.underlying135 rfl (by kernel_rfl)) rfl ⟨by rw [HMN.out HMM.out, HMM.out, HYC.out]; rfl, below_set (below_set (below_set HBc.out (by simp)) (by simp)) (by simp)⟩
theorem tomorrow_c (n : Int) (h0 : -719162 ≤ n) (h1 : n ≤ 10000000) (w : World) : Calls Tryz.prog 104 #[.agg #[.int .i64 (Cal.Y n), .int .i64 (Cal.M n), .int .i64 (Cal.D n)]] w fun e w' => e = .returned (.agg #[.int .i64 (Cal.Y (n + 1)), .int .i64 (Cal.M (n + 1)), .int .i64 (Cal.D (n + 1))]) ∧ Below w.heap.size w w' := by
 have b := Cal.tomorrow n
 have p := Cal.mdays_pos (Cal.Y n) (Cal.M n)
 have yb : Cal.Y n ≤ 40000 := by have := (Cal.Y_bounds n).1; unfold Cal.ys at this; omega
 have yl : -40000 ≤ Cal.Y n := by have := (Cal.Y_bounds n).2; unfold Cal.ys at this; omega
 obtain ⟨v1, v2, v3, v4⟩ := Cal.date_valid n
 have HM := Lib.hid (fun w => spec_CronMonthDays.calls (Cal.Y n) (Cal.M n) _ w (md_f _ _))
 have hu135 := Tryz.underlying135
 have wq : ∀ x : Int, -100000 ≤ x → x ≤ 100000 → IntKind.i64.wrap x = x := fun x h1 h2 => by simp only [IntKind.wrap, IntKind.bits, IntKind.signed]; simp; omega
 have g0 := wq (Cal.D n + 1) (by omega) (by omega)
 have g1 := wq (Cal.M n + 1) (by omega) (by omega)
 have g2 := wq (Cal.Y n + 1) (by omega) (by omega)
 have B0 := Lib.hid (below_alloc (below_alloc (Below.refl w.heap.size w) (.cells #[.int .i64 (Cal.Y n), .int .i64 (Cal.M n), .int .i64 (Cal.D n)] 135)) (.cells #[.int .i64 0, .int .i64 0, .int .i64 0] 135))
 have K0 := blk_alloc (blk_new w (.cells #[.int .i64 (Cal.Y n), .int .i64 (Cal.M n), .int .i64 (Cal.D n)] 135)) (.cells #[.int .i64 0, .int .i64 0, .int .i64 0] 135)
 have K1 := blk_new (w.alloc (.cells #[.int .i64 (Cal.Y n), .int .i64 (Cal.M n), .int .i64 (Cal.D n)] 135)) (.cells #[.int .i64 0, .int .i64 0, .int .i64 0] 135)
 rw [show (w.alloc (.cells #[.int .i64 (Cal.Y n), .int .i64 (Cal.M n), .int .i64 (Cal.D n)] 135)).heap.size = w.heap.size + 1 by simp] at K1
 go_enter Tryz.func104, Tryz.ntmps104
 go_upto_region 1 with (fail)
 generalize (w.alloc (.cells #[.int .i64 (Cal.Y n), .int .i64 (Cal.M n), .int .i64 (Cal.D n)] 135)).alloc (.cells #[.int .i64 0, .int .i64 0, .int .i64 0] 135) = W at *
 have k0 := blk_cell K0 0
 have k1 := blk_cell K0 1
 have k2 := blk_cell K0 2
 have HK := Lib.hid K1
 clear K1 K0 v1 v2 v3 v4 p yb yl wq
 generalize Cal.Y n = Y at *
 generalize Cal.M n = M at *
 generalize Cal.D n = D at *
 go_quiet (first | (go_at_call 102; refine (HM.out _).mono ?_; rintro e w' ⟨rfl, ⟨nd, rfl⟩⟩; first | exact ⟨rfl, _, World.drewN_drewN _ _ _⟩ | exact ⟨rfl, _, Eq.trans (World.drewN_drewN _ _ _) (congrArg (World.drewN _) (Nat.add_assoc _ _ _))⟩) | fail)
 have HB := Lib.hid (B0.out.trans (Go.Joins.below_draws w.heap.size W nq))
 have HK' := Lib.hid (show (W.drewN nq).heap[w.heap.size + 1]? = some (.cells #[.int .i64 0, .int .i64 0, .int .i64 0] 135 (0, 0)) from HK.out)
 have m0 : (W.drewN nq).cell? ⟨w.heap.size, 0, none⟩ = some (.int .i64 Y) := k0
 have m1 : (W.drewN nq).cell? ⟨w.heap.size, 1, none⟩ = some (.int .i64 M) := k1
 have m2 : (W.drewN nq).cell? ⟨w.heap.size, 2, none⟩ = some (.int .i64 D) := k2
 have n0 := blk_cell HK'.out 0
 have n1 := blk_cell HK'.out 1
 have n2 := blk_cell HK'.out 2
 have f0 := blk_frozen HK'.out 0
 have f1 := blk_frozen HK'.out 1
 have f2 := blk_frozen HK'.out 2
 generalize W.drewN nq = V at *
 have fin : ∀ (x y z : Int), Below w.heap.size w (((V.setCell ⟨w.heap.size + 1, 0, none⟩ (.int .i64 x)).setCell ⟨w.heap.size + 1, 1, none⟩ (.int .i64 y)).setCell ⟨w.heap.size + 1, 2, none⟩ (.int .i64 z)) ∧ (((V.setCell ⟨w.heap.size + 1, 0, none⟩ (.int .i64 x)).setCell ⟨w.heap.size + 1, 1, none⟩ (.int .i64 y)).setCell ⟨w.heap.size + 1, 2, none⟩ (.int .i64 z)).heap[w.heap.size + 1]? = some (.cells #[.int .i64 x, .int .i64 y, .int .i64 z] 135 (0, 0)) := fun x y z =>
  ⟨below_set (below_set (below_set HB.out (by simp)) (by simp)) (by simp), blk_put (blk_put (blk_put HK'.out 0 (.int .i64 x) (cs' := #[.int .i64 x, .int .i64 0, .int .i64 0]) rfl) 1 (.int .i64 y) (cs' := #[.int .i64 x, .int .i64 y, .int .i64 0]) rfl) 2 (.int .i64 z) rfl⟩
 clear k0 k1 k2 HK
 by_cases c1 : D < Cal.mdays Y M
 ·obtain ⟨e1, e2, e3⟩ := b.1 c1
  clear b
  go_wp2
  obtain ⟨q1, q2⟩ := fin Y M (D + 1)
  exact bodyPost_ret (results_cell_row rfl _ _ (w.heap.size + 1) 135 _ (0, 0) _ rfl q2 Tryz.underlying135 rfl (by kernel_rfl)) rfl ⟨by first | rfl | rw [e1, e2, e3], q1⟩
 ·by_cases c2 : M < 12
  ·obtain ⟨e1, e2, e3⟩ := b.2.1 c1 c2
   clear b
   go_wp2
   obtain ⟨q1, q2⟩ := fin Y (M + 1) 1
   exact bodyPost_ret (results_cell_row rfl _ _ (w.heap.size + 1) 135 _ (0, 0) _ rfl q2 Tryz.underlying135 rfl (by kernel_rfl)) rfl ⟨by first | rfl | rw [e1, e2, e3], q1⟩
  ·obtain ⟨e1, e2, e3⟩ := b.2.2 c1 c2
   clear b
   go_wp2
   obtain ⟨q1, q2⟩ := fin (Y + 1) 1 1
   exact bodyPost_ret (results_cell_row rfl _ _ (w.heap.size + 1) 135 _ (0, 0) _ rfl q2 Tryz.underlying135 rfl (by kernel_rfl)) rfl ⟨by first | rfl | rw [e1, e2, e3], q1⟩
theorem weekday_c (n : Int) (h0 : -10000000 ≤ n) (h1 : n ≤ 10000000) (w : World) : Calls Tryz.prog 106 #[.int .i64 n] w fun e w' => e = .returned (.int .i64 (Cal.W n)) ∧ Below w.heap.size w w' :=
 (spec_CronWeekday.calls n _ w (weekday_f n h0 h1)).mono fun e w' h => ⟨h.1, drawn_below h.2⟩
theorem floorDiv_c (a b : Int) (hb : 0 < b) (h0 : -4000000000000000000 ≤ a) (h1 : a ≤ 4000000000000000000) (w : World) : Calls Tryz.prog 71 #[.int .i64 a, .int .i64 b] w fun e w' => e = .returned (.int .i64 (a / b)) ∧ Below w.heap.size w w' :=
 (spec_floorDiv.calls a b _ w (fd a b hb h0 h1)).mono fun e w' h => ⟨h.1, drawn_below h.2⟩
end Go.Proofs.YtcjdideliifkhaaGreatDoor
