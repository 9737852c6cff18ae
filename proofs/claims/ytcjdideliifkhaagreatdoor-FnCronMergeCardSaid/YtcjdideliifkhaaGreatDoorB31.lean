import Derived.Test.YtcjdideliifkhaaGreatDoorB30
set_option maxRecDepth 100000
set_option maxHeartbeats 16000000
namespace Go.Proofs.YtcjdideliifkhaaGreatDoor
open Go.RowKit Go.Proofs.YtcjdideliifkhaaGreatDoorW.PrintWords Go.Proofs.YtcjdideliifkhaaGreatDoorW.PrintLast Go.Proofs.YtcjdideliifkhaaGreatDoorW.PrintMore PFnCronTextAfterAnywhere
set_option linter.unusedVariables false
set_option linter.unusedSimpArgs false
def plc (k : Nat) : Int := if k = 0 then 1 else if k = 1 then 4 else if k = 2 then 8 else if k = 3 then 16 else if k = 4 then 32 else 64
def opt1 (o : Int) : Int := if 0 < Go.bits .and .i64 o 2 then Go.bits .or .i64 o 1 else o
def opt2 (o : Int) : Int := if 0 < Go.bits .and .i64 (opt1 o) 128 then Go.bits .or .i64 (opt1 o) 64 else opt1 o
def cnt1 (o : Int) : Int := if 0 < Go.bits .and .i64 o 2 then 1 else 0
def cnt2 (o : Int) : Int := if 0 < Go.bits .and .i64 (opt1 o) 128 then cnt1 o + 1 else cnt1 o
def twoB (o : Int) : Bool := Go.bits .and .i64 o 2 != 0 && Go.bits .and .i64 o 128 != 0
def normOk (o : Int) : Bool :=
 twoB o || ((List.range 6).all (fun k => decide (0 < Go.bits .and .i64 (opt2 o) (plc k)) == takes o k) && cnt2 o == (if missO o < 0 then 0 else 1) &&
  (missO o == -1 || (missO o == 5 && takes o 5 && decide (0 < Go.bits .and .i64 (opt2 o) 128)) || (missO o == 0 && takes o 0 && decide (0 < Go.bits .and .i64 (opt2 o) 2) && !decide (0 < Go.bits .and .i64 (opt2 o) 128))))
theorem norm_ok : ((List.range 512).all fun o => normOk (o : Int)) = true := by kernel_rfl
theorem two_false (o : Int) (h : spec_CronTwoOptional.f o = some false) : twoB o = false := by
 unfold spec_CronTwoOptional.f at h
 unfold twoB
 split at h
 ·rename_i h1; rw [h1]; rfl
 ·rename_i h1
  have : (Go.bits .and .i64 o 128 != 0) = false := by simpa using h
  rw [this, Bool.and_false]
theorem norm_facts (o : Nat) (ho : o < 512) (h2 : spec_CronTwoOptional.f (o : Int) = some false) :
  (∀ k, k < 6 → (0 < Go.bits .and .i64 (opt2 o) (plc k) ↔ takes o k = true)) ∧ cnt2 o = (if missO o < 0 then 0 else 1) ∧
  (missO o = -1 ∨ (missO o = 5 ∧ takes o 5 = true ∧ 0 < Go.bits .and .i64 (opt2 o) 128) ∨ (missO o = 0 ∧ takes o 0 = true ∧ 0 < Go.bits .and .i64 (opt2 o) 2 ∧ ¬ 0 < Go.bits .and .i64 (opt2 o) 128)) := by
 have h := List.all_eq_true.1 norm_ok o (by simpa using ho)
 unfold normOk at h
 rw [two_false _ h2, Bool.false_or, Bool.and_eq_true, Bool.and_eq_true, List.all_eq_true] at h
 obtain ⟨⟨h3, h4⟩, h5⟩ := h
 refine ⟨fun k hk => ?_, by simpa using h4, ?_⟩
 ·have := h3 k (by simpa using hk)
  rw [beq_iff_eq] at this
  rw [← this, decide_eq_true_eq]
 ·simp only [Bool.or_eq_true, Bool.and_eq_true, beq_iff_eq, decide_eq_true_eq, Bool.not_eq_true', decide_eq_false_iff_not] at h5
  rcases h5 with (h5 | h5) | h5
  ·exact .inl h5
  ·exact .inr (.inl ⟨h5.1.1, h5.1.2, h5.2⟩)
  ·exact .inr (.inr ⟨h5.1.1.1, h5.1.1.2, h5.1.2, h5.2⟩)
def wordsX (m : Int) (words : List Txt) : List Txt := if m = 5 then words ++ [[42]] else if m = 0 then [48] :: words else words
def fullX (o : Int) (wx : List Txt) (k : Nat) : Txt := if takes o k then wx.getD (cnt o k) [] else dflt k
theorem cnt_mono (o : Int) : ∀ (d k : Nat), cnt o k ≤ cnt o (k + d) := by
 intro d; induction d with
 | zero => intro k; exact Nat.le_refl _
 | succ d ih => intro k; have := ih k; rw [show k + (d + 1) = (k + d) + 1 by omega]; simp only [cnt]; omega
theorem nxt_zero (o : Int) (h : takes o 0 = true) : ∀ k, nxt o 0 (k + 1) + 1 = cnt o (k + 1) := by
 intro k
 induction k with
 | zero => simp [nxt, cnt, used, h]
 | succ k ih =>
  have e1 : nxt o 0 (k + 1 + 1) = nxt o 0 (k + 1) + if used o 0 (k + 1) then 1 else 0 := rfl
  have e2 : cnt o (k + 1 + 1) = cnt o (k + 1) + if takes o (k + 1) then 1 else 0 := rfl
  have e3 : used o 0 (k + 1) = takes o (k + 1) := by unfold used; rw [decide_eq_true (by omega), Bool.and_true]
  rw [e1, e2, e3]
  omega
theorem nxt_five (o : Int) : ∀ k, k ≤ 5 → nxt o 5 k = cnt o k := by
 intro k
 induction k with
 | zero => intro _; rfl
 | succ k ih =>
  intro hk
  have e1 : nxt o 5 (k + 1) = nxt o 5 k + if used o 5 k then 1 else 0 := rfl
  have e2 : cnt o (k + 1) = cnt o k + if takes o k then 1 else 0 := rfl
  have e3 : used o 5 k = takes o k := by unfold used; rw [decide_eq_true (by omega), Bool.and_true]
  rw [e1, e2, e3, ih (by omega)]
theorem full_eq (o : Nat) (ho : o < 512) (h2 : spec_CronTwoOptional.f (o : Int) = some false) (words : List Txt) (m : Int) (hm : missN o words.length = some m) :
  (∀ k, k < 6 → fullAt o m words k = fullX o (wordsX m words) k) ∧ (wordsX m words).length = cnt o 6 ∧ (m = -1 ∧ words.length = cnt o 6 ∨ m = missO o ∧ (m = 5 ∨ m = 0) ∧ words.length + 1 = cnt o 6) := by
 obtain ⟨_, _, h3⟩ := norm_facts o ho h2
 have hfit := nxt_fits o ho _ _ hm
 unfold missN at hm
 split at hm
 ·rename_i h1
  cases hm
  refine ⟨fun k hk => ?_, by unfold wordsX; rw [if_neg (by decide), if_neg (by decide)]; exact h1, .inl ⟨rfl, h1⟩⟩
  unfold fullAt fullX used wordsX
  rw [nxt_none, decide_eq_true (by omega), Bool.and_true, if_neg (show ¬ (-1 : Int) = 5 by decide), if_neg (show ¬ (-1 : Int) = 0 by decide)]
 ·split at hm
  ·cases hm
  ·rename_i h1 h4
   cases hm
   have hn1 : (words.length : Int) = (cnt o 6 : Int) - 1 := by
    by_cases e : (words.length : Int) = (cnt o 6 : Int) - 1
    ·exact e
    ·exact absurd (.inr e) h4
   have hn : words.length + 1 = cnt o 6 := by omega
   have hneg : ¬ missO (o : Int) < 0 := fun h => h4 (.inl h)
   rcases h3 with h3 | ⟨h3, ht, _⟩ | ⟨h3, ht, _⟩
   ·rw [h3] at hneg; exact absurd (by decide) hneg
   ·rw [h3] at hfit ⊢
    refine ⟨fun k hk => ?_, by unfold wordsX; rw [if_pos rfl]; simp; omega, .inr ⟨rfl, .inl rfl, hn⟩⟩
    unfold fullAt fullX wordsX
    rw [if_pos rfl]
    by_cases h5 : k = 5
    ·subst h5
     have hu : used (o : Int) 5 5 = false := by unfold used; simp
     have hc5 : cnt (o : Int) 5 = words.length := by
      have e2 : cnt (o : Int) 6 = cnt (o : Int) 5 + if takes (o : Int) 5 then 1 else 0 := rfl
      rw [ht, if_pos rfl] at e2; omega
     rw [hu, if_neg (by decide), ht, if_pos rfl, hc5, List.getD_eq_getElem?_getD, List.getElem?_append_right (Nat.le_refl _), Nat.sub_self]
     rfl
    ·have hu : used (o : Int) 5 k = takes (o : Int) k := by unfold used; rw [decide_eq_true (by omega), Bool.and_true]
     rw [hu, nxt_five _ k (by omega)]
     cases htk : takes (o : Int) k with
     | false => rfl
     | true =>
      rw [if_pos rfl, if_pos rfl]
      have hlt : cnt (o : Int) k < words.length := by
       have h6 := nxt_mono (o : Int) 5 (6 - (k + 1)) (k + 1)
       rw [show k + 1 + (6 - (k + 1)) = 6 by omega, hfit] at h6
       have e1 : nxt (o : Int) 5 (k + 1) = nxt (o : Int) 5 k + if used (o : Int) 5 k then 1 else 0 := rfl
       rw [hu, htk, if_pos rfl, nxt_five _ k (by omega)] at e1
       omega
      rw [List.getD_eq_getElem?_getD, List.getD_eq_getElem?_getD, List.getElem?_append_left hlt]
   ·rw [h3] at hfit ⊢
    refine ⟨fun k hk => ?_, by unfold wordsX; rw [if_neg (by decide), if_pos rfl]; simp; omega, .inr ⟨rfl, .inr rfl, hn⟩⟩
    unfold fullAt fullX wordsX
    rw [if_neg (show ¬ (0 : Int) = 5 by decide), if_pos rfl]
    cases k with
    | zero =>
     have hu : used (o : Int) 0 0 = false := by unfold used; simp
     rw [hu, if_neg (by decide), ht, if_pos rfl]
     rfl
    | succ k =>
     have hu : used (o : Int) 0 (k + 1) = takes (o : Int) (k + 1) := by unfold used; rw [decide_eq_true (by omega), Bool.and_true]
     rw [hu]
     cases htk : takes (o : Int) (k + 1) with
     | false => rfl
     | true =>
      rw [if_pos rfl, if_pos rfl, ← nxt_zero _ ht k]
      rfl
end Go.Proofs.YtcjdideliifkhaaGreatDoor
