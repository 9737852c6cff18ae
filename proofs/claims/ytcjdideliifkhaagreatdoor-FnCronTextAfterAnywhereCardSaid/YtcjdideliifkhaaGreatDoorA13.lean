import Derived.Deep.RegionHeld3
import Derived.Laws.BitsLemmas
import Derived.Lib.Hide
import Derived.Test.YtcjdideliifkhaaGreatDoorRows
import Derived.WalkKit
import Derived.WalkLawsBesides
import Derived.WalkSpells
import Derived.Test.YtcjdideliifkhaaGreatDoorA12
set_option maxRecDepth 100000
set_option maxHeartbeats 16000000
namespace Go
open Go.RowKit
set_option linter.unusedVariables false
set_option linter.unusedSimpArgs false
section
variable {P : Program} {ops : Array Oper} {Q : Exit → Act → World → Prop}
def Region.Steps2 (P : Program) (ops : Array Oper) (Q : Exit → Act → World → Prop) (V : Nat → Value → World → Prop) (G : World → World → Prop) (S : World → Prop) (a0 : Act) (m p : Nat) : Nat → List Oper → Prop
 | _, [] => True
 | i, o :: l => (i ≠ m → i ≠ p → ∀ a w, S w → Region.At ops V a0 (· ∈ Region.depsOf ops i) a w → Region.Step P ops Q V G i o a w o.guard) ∧ Region.Steps2 P ops Q V G S a0 m p (i + 1) l
theorem Region.Steps2.at {V : Nat → Value → World → Prop} {G : World → World → Prop} {S : World → Prop} {a0 : Act} {m p : Nat} : ∀ (l : List Oper) (k : Nat), Region.Steps2 P ops Q V G S a0 m p k l → ∀ i o, l[i]? = some o → k + i ≠ m → k + i ≠ p → ∀ a w, S w → Region.At ops V a0 (· ∈ Region.depsOf ops (k + i)) a w →
   Region.Step P ops Q V G (k + i) o a w o.guard := by
 intro l
 induction l with
 | nil => intro k _ i o h; simp at h
 | cons x l ih =>
  intro k h i o hi
  cases i with
  | zero => simp at hi; subst hi; exact h.1
  | succ i =>
   have := ih (k + 1) h.2 i o (by simpa using hi)
   rw [show k + 1 + i = k + (i + 1) by omega] at this
   exact this
theorem wp_region_pivA {id : Nat} {a0 : Act} {w0 : World} (hm : P.follows .mixedOrders = true) (n : Nat) (hn : a0.tmps.size = n) (m p : Nat)
  (V : Bool → Nat → Value → World → Prop) (S : Bool → World → Prop)
  (G : Bool → World → World → Prop) (hR : ∀ b w, G b w w) (hG : ∀ b w w', S b w → G b w w' → S b w' ∧ ∀ j v, V b j v w → V b j v w')
  (hback : Region.back ops = true) (hbare : Region.bareAt ops m = true) (hok' : Region.dstsOk ops n = true) (hap : Region.dstsApart ops = true) (hlast : Region.lastIs ops m = true)
  (hp : (decide (p < ops.size) && decide (p ≠ m) && Region.bareAt ops p) = true)
  (h0 : S false w0.drew)
  (hstep : ∀ b, Region.Steps2 P ops Q (V b) (G b) (S b) a0 m p 0 ops.toList)
  (hpiv : ∀ o, ops[p]? = some o → ∀ a w, S false w → Region.At ops (V false) a0 (· ∈ Region.depsOf ops p) a w →
   o.wp P a w (fun a' w' => ∃ v, a' = a.put o.dst v ∧ V true p v w' ∧ S true w' ∧ ∀ j t, Region.dstOf ops j = some t → V false j (a.tmps.getD t undef) w → V true j (a.tmps.getD t undef) w') Q)
  (hend : ∀ a w, S true w → Region.At ops (V true) a0 (fun j => j < ops.size ∧ j ≠ m) a w → match ops[m]? with | none => Q .normal a w | some o => o.wp P a w (fun a' w' => Q .normal a' w') Q) :
  (Code.region id ops true).wp P Q a0 w0 := by
 have hok : Region.dstsOk ops a0.tmps.size = true := hn ▸ hok'
 simp only [Bool.and_eq_true, decide_eq_true_eq] at hp
 obtain ⟨⟨hp1, hp2⟩, hp3⟩ := hp
 have hstep1 : ∀ b i o, ops[i]? = some o → i ≠ m → i ≠ p → ∀ a w, S b w → Region.At ops (V b) a0 (· ∈ Region.depsOf ops i) a w →
   (Region.wanted o (yielded ops a.tmps) = true → o.wp P a w (fun a' w' => ∃ v, a' = a.put o.dst v ∧ V b i v w' ∧ G b w w') Q) ∧ (Region.wanted o (yielded ops a.tmps) = false → V b i undef w) := by
  intro b i o ho him hip a w hS hA
  have := Region.Steps2.at ops.toList 0 (hstep b) i o (by simpa using ho) (by omega) (by omega) a w hS (by rw [Nat.zero_add]; exact hA)
  rw [Nat.zero_add] at this
  exact this.both
 have hwantp : ∀ (o : Oper) y, ops[p]? = some o → Region.wanted o y = true := by
  intro o y ho
  unfold Region.bareAt at hp3
  rw [ho] at hp3
  simp only at hp3
  unfold Region.wanted
  cases hg : o.guard with
  | none => rfl
  | some g => rw [hg] at hp3; cases hp3
 refine wp_region_any hm ?_
 change wpAny P .any ops Q ops.size (Array.replicate ops.size false) a0 w0.drew
 have hbk : ∀ i j, j ∈ Region.depsOf ops i → j < i := by
  intro i j hj
  by_cases hi : i < ops.size
  ·have := List.all_eq_true.1 hback i (by simpa using hi)
   have := List.all_eq_true.1 this j hj
   simpa using this
  ·unfold Region.depsOf at hj
   rw [Array.getElem?_eq_none (by omega)] at hj
   simp at hj
 have hwant : ∀ (o : Oper) y, ops[m]? = some o → Region.wanted o y = true := by
  intro o y ho
  unfold Region.bareAt at hbare
  rw [ho] at hbare
  simp only at hbare
  unfold Region.wanted
  cases hg : o.guard with
  | none => rfl
  | some g => rw [hg] at hbare; cases hbare
 have hdlt : ∀ (i : Nat) (t : Tmp), Region.dstOf ops i = some t → t < a0.tmps.size := by
  intro i t ht
  unfold Region.dstOf at ht
  cases ho : ops[i]? with
  | none => rw [ho] at ht; cases ht
  | some o =>
   rw [ho] at ht
   have : o ∈ ops.toList := by simpa using Array.mem_of_getElem? ho
   have := List.all_eq_true.1 hok o this
   simp only [Option.bind_some] at ht
   rw [ht] at this
   simpa using this
 have hdap : ∀ (i j : Nat) (t : Tmp), Region.dstOf ops i = some t → Region.dstOf ops j = some t → i = j := by
  intro i j t hi hj
  have hi1 : i < ops.size := by
   by_cases c : i < ops.size; exact c
   unfold Region.dstOf at hi; rw [Array.getElem?_eq_none (by omega)] at hi; cases hi
  have hj1 : j < ops.size := by
   by_cases c : j < ops.size; exact c
   unfold Region.dstOf at hj; rw [Array.getElem?_eq_none (by omega)] at hj; cases hj
  have := List.all_eq_true.1 hap i (by simpa using hi1)
  have := List.all_eq_true.1 this j (by simpa using hj1)
  simpa [hi, hj] using this
 have key : ∀ (fuel : Nat) (listed : Array Bool) (a : Act) (w : World), listed.size = ops.size →
   (listed.toList.filter (! ·)).length ≤ fuel → (∀ i, listed.getD i false = true → ∀ j ∈ Region.depsOf ops i, listed.getD j false = true) →
   (listed.getD m false = false ∧ S (listed.getD p false) w ∧ Region.At ops (V (listed.getD p false)) a0 (fun j => listed.getD j false = true) a w ∨ (∀ i, i < ops.size → listed.getD i false = true) ∧ Q .normal a w) →
   wpAny P .any ops Q fuel listed a w := by
  intro fuel
  have hnil : ∀ (listed : Array Bool) (a : Act) (w : World), listed.size = ops.size →
   (listed.getD m false = false ∧ S (listed.getD p false) w ∧ Region.At ops (V (listed.getD p false)) a0 (fun j => listed.getD j false = true) a w ∨ (∀ i, i < ops.size → listed.getD i false = true) ∧ Q .normal a w) →
   Region.ready .any ops listed = [] → Q .normal a w := by
   intro listed a w hs hinv hr
   have hall : ∀ n i, i < n → i < ops.size → listed.getD i false = true := by
    intro n
    induction n with
    | zero => intro i h; omega
    | succ n ih =>
     intro i hi hio
     cases hl : listed.getD i false with
     | true => rfl
     | false =>
      have : i ∈ Region.ready .any ops listed := (Region.ready_iff listed hs i).2 ⟨hio, hl, fun j hj => ih j (by have := hbk i j hj; omega) (by have := hbk i j hj; omega)⟩
      rw [hr] at this; cases this
   rcases hinv with ⟨hm0, hS, hAt⟩ | ⟨-, hQ⟩
   ·have hmge : ops.size ≤ m := by
     by_cases c : ops.size ≤ m; exact c
     rw [hall (m + 1) m (by omega) (by omega)] at hm0; cases hm0
    rw [hall (p + 1) p (by omega) hp1] at hS hAt
    have := hend a w hS ⟨hAt.defers, hAt.size, fun j t hj ht => hAt.got j t (hall (j + 1) j (by omega) hj.1) ht, hAt.old⟩
    rw [Array.getElem?_eq_none hmge] at this
    exact this
   ·exact hQ
  induction fuel with
  | zero =>
   intro listed a w hs hn hcl hinv
   have hr : Region.ready .any ops listed = [] := by
    cases hr : Region.ready .any ops listed with
    | nil => rfl
    | cons i rest =>
     have hi : i ∈ Region.ready .any ops listed := by rw [hr]; simp
     obtain ⟨h1, h2, -⟩ := (Region.ready_iff listed hs i).1 hi
     have hmem : listed[i]'(by omega) ∈ listed.toList.filter (! ·) := by
      rw [List.mem_filter]
      refine ⟨by simp, ?_⟩
      simpa [Array.getD, hs, h1] using h2
     have := List.length_pos_of_mem hmem
     omega
   exact ⟨hr, hnil listed a w hs hinv hr⟩
  | succ fuel ih =>
   intro listed a w hs hn hcl hinv
   refine ⟨hnil listed a w hs hinv, fun i hi => ?_⟩
   obtain ⟨h1, h2, h3⟩ := (Region.ready_iff listed hs i).1 hi
   have hcount : ((listed.setIfInBounds i true).toList.filter (! ·)).length ≤ fuel := by
    have hlt : i < listed.toList.length := by simp; omega
    have hget : listed.toList[i] = false := by simpa [Array.getD, hs, h1] using h2
    have : ((listed.toList.set i true).filter (! ·)).length + 1 = (listed.toList.filter (! ·)).length := by
     have gen : ∀ (l : List Bool) (i : Nat) (h : i < l.length), l[i] = false → ((l.set i true).filter (! ·)).length + 1 = (l.filter (! ·)).length := by
      intro l
      induction l with
      | nil => intro i h; simp at h
      | cons x l ihl =>
       intro i h hx
       cases i with
       | zero => simp at hx; subst hx; simp
       | succ i =>
        have := ihl i (by simpa using h) (by simpa using hx)
        cases x <;> simp [List.filter_cons] <;> omega
     exact gen _ i hlt hget
    rw [Array.toList_setIfInBounds]; omega
   have hset : ∀ j, (listed.setIfInBounds i true).getD j false = true ↔ (j = i ∨ listed.getD j false = true) := by
    intro j
    by_cases hji : j = i
    ·subst hji; simp [getD_set_self (listed := listed) (i := j) (by omega)]
    ·rw [getD_set_ne false (Ne.symm hji)]; simp [hji]
   have hcl' : ∀ k, (listed.setIfInBounds i true).getD k false = true → ∀ j ∈ Region.depsOf ops k, (listed.setIfInBounds i true).getD j false = true := by
    intro k hk j hj
    rw [hset] at hk ⊢
    rcases hk with rfl | hk
    ·exact .inr (h3 j hj)
    ·exact .inr (hcl k hk j hj)
   rcases hinv with ⟨hm0, hS, hAt⟩ | ⟨hall, -⟩
   case inr => rw [hall i h1] at h2; cases h2
   have e : ops[i]? = some ops[i] := by simp [h1]
   unfold wpOp
   rw [e]
   simp only []
   by_cases him : i = m
   ·
    subst him
    have hothers : ∀ j, j < ops.size → j ≠ i → listed.getD j false = true := by
     intro j hj hji
     have hl : (List.range ops.size).all fun k => (Region.needs ops ops.size [i]).contains k := by
      unfold Region.lastIs at hlast
      simp only [Bool.or_eq_true] at hlast
      rcases hlast with h | h
      ·simp at h; omega
      ·exact h
     have hj2 := List.all_eq_true.1 hl j (by simpa using hj)
     have := Region.needs_mem (ops := ops) (fun k => (listed.setIfInBounds i true).getD k false = true) hcl' ops.size [i]
      (by intro k hk; simp at hk; subst hk; exact getD_set_self (by omega)) j (by simpa using hj2)
     have := (hset j).1 this
     exact this.resolve_left hji
    rw [if_pos (hwant _ _ e)]
    refine .inl ?_
    rw [hothers p hp1 hp2] at hS hAt
    have hq := hend a w hS ⟨hAt.defers, hAt.size, fun j t hj ht => hAt.got j t (hothers j hj.1 hj.2) ht, hAt.old⟩
    rw [e] at hq
    refine Oper.wp_mono (fun a' w' hq' => ih _ a' w' (by simp [hs]) hcount hcl' (.inr ⟨fun j hj => ?_, hq'⟩)) hq
    rw [hset]
    by_cases c : j = i
    ·exact .inl c
    ·exact .inr (hothers j hj c)
   ·suffices hpost : ∀ v w', V ((listed.setIfInBounds i true).getD p false) i v w' → S ((listed.setIfInBounds i true).getD p false) w' → (∀ j t, Region.dstOf ops j = some t → V (listed.getD p false) j (a.tmps.getD t undef) w → V ((listed.setIfInBounds i true).getD p false) j (a.tmps.getD t undef) w') →
      wpAny P .any ops Q fuel (listed.setIfInBounds i true) (a.put (ops[i]).dst v) w' by
     by_cases hip : i = p
     ·subst hip
      rw [if_pos (hwantp _ _ e)]
      have ht : (listed.setIfInBounds i true).getD i false = true := getD_set_self (by omega)
      rw [h2] at hS hAt hpost
      rw [ht] at hpost
      refine .inl (Oper.wp_mono (fun a' w' hq' => ?_) (hpiv _ e a w hS ⟨hAt.defers, hAt.size, fun j t hj ht => hAt.got j t (h3 j hj) ht, hAt.old⟩))
      obtain ⟨v, rfl, hv, hS', hV'⟩ := hq'
      exact hpost v w' hv hS' hV'
     ·have hs2 := hstep1 _ i _ e him hip a w hS ⟨hAt.defers, hAt.size, fun j t hj ht => hAt.got j t (h3 j hj) ht, hAt.old⟩
      rw [getD_set_ne false hip] at hpost
      by_cases hw : Region.wanted ops[i] (yielded ops a.tmps) = true
      ·rw [if_pos hw]
       refine .inl (Oper.wp_mono (fun a' w' hq' => ?_) (hs2.1 hw))
       obtain ⟨v, rfl, hv, hb⟩ := hq'
       have := hG _ w w' hS hb
       exact hpost v w' hv this.1 (fun j t _ h => this.2 j _ h)
      ·rw [if_neg hw]
       exact hpost undef w (hs2.2 (by simpa using hw)) hS (fun _ _ _ h => h)
    intro v w' hv hS' hV'
    refine ih _ _ w' (by simp [hs]) hcount hcl' (.inl ⟨?_, hS', ?_⟩)
    ·rw [getD_set_ne false him]; exact hm0
    ·have hdst : Region.dstOf ops i = (ops[i]).dst := by unfold Region.dstOf; rw [e]; rfl
     cases hd : (ops[i]).dst with
     | none =>
      refine ⟨hAt.defers, hAt.size, fun j t hj ht => ?_, hAt.old⟩
      rcases (hset j).1 hj with rfl | hj
      ·rw [hdst, hd] at ht; cases ht
      ·exact hV' _ _ ht (hAt.got j t hj ht)
     | some d =>
      have hdi : Region.dstOf ops i = some d := by rw [hdst, hd]
      have hdl := hdlt i d hdi
      have hsz := hAt.size
      refine ⟨hAt.defers, by simpa [Act.put] using hAt.size, fun j t hj ht => ?_, fun t ht => ?_⟩
      ·by_cases htd : t = d
       ·subst htd
        have := hdap i j t hdi ht
        subst this
        have : (a.put (some t) v).tmps.getD t undef = v := by simp [Act.put, Array.getD, hsz, hdl]
        rw [this]; exact hv
       ·have : (a.put (some d) v).tmps.getD t undef = a.tmps.getD t undef := by
         simp [Act.put, Array.getD_eq_getD_getElem?, Array.getElem?_setIfInBounds_ne (Ne.symm htd)]
        rw [this]
        rcases (hset j).1 hj with rfl | hj
        ·rw [hdi] at ht; exact absurd (Option.some.inj ht).symm htd
        ·exact hV' _ _ ht (hAt.got j t hj ht)
      ·have htd : d ≠ t := fun h => ht i (by rw [hdi, h])
       have : (a.put (some d) v).tmps.getD t undef = a.tmps.getD t undef := by
        simp [Act.put, Array.getD_eq_getD_getElem?, Array.getElem?_setIfInBounds_ne htd]
       rw [this]; exact hAt.old t ht
 have hp0 : (Array.replicate ops.size false).getD p false = false := by simp [Array.getD]
 refine key ops.size _ a0 w0.drew (by simp) (by simp [List.length_filter_le]) ?_ (.inl ⟨?_, by rw [hp0]; exact h0, rfl, rfl, ?_, fun _ _ => rfl⟩)
 ·intro i hi
  exfalso
  simp [Array.getD] at hi
 ·simp [Array.getD]
 ·intro j t hj
  exfalso
  simp [Array.getD] at hj
theorem wp_region_piv {id : Nat} {a0 : Act} {w0 : World} (hm : P.follows .mixedOrders = true) (n : Nat) (hn : a0.tmps.size = n) (m p : Nat)
  (V : Bool → Nat → Value → World → Prop) (S : Bool → World → Prop)
  (G : Bool → World → World → Prop) (hR : ∀ b w, G b w w) (hG : ∀ b w w', S b w → G b w w' → S b w' ∧ ∀ j v, V b j v w → V b j v w')
  (hback : Region.back ops = true) (hbare : Region.bareAt ops m = true) (hok' : Region.dstsOk ops n = true) (hap : Region.dstsApart ops = true) (hlast : Region.lastIs ops m = true)
  (hp : (decide (p < ops.size) && decide (p ≠ m) && Region.bareAt ops p) = true)
  (h0 : S false w0.drew)
  (hstep : ∀ b, Region.Steps2 P ops Q (V b) (G b) (S b) a0 m p 0 ops.toList)
  (hpiv : ∀ o, ops[p]? = some o → ∀ a w, S false w → Region.At ops (V false) a0 (· ∈ Region.depsOf ops p) a w →
   o.wp P a w (fun a' w' => ∃ v, a' = a.put o.dst v ∧ V true p v w' ∧ S true w' ∧ ∀ j u, V false j u w → V true j u w') Q)
  (hend : ∀ a w, S true w → Region.At ops (V true) a0 (fun j => j < ops.size ∧ j ≠ m) a w → match ops[m]? with | none => Q .normal a w | some o => o.wp P a w (fun a' w' => Q .normal a' w') Q) :
  (Code.region id ops true).wp P Q a0 w0 :=
 wp_region_pivA hm n hn m p V S G hR hG hback hbare hok' hap hlast hp h0 hstep (fun o ho a w hS hA => Oper.wp_mono (fun a' w' h => by
  obtain ⟨v, h1, h2, h3, h4⟩ := h
  exact ⟨v, h1, h2, h3, fun j t _ h => h4 j _ h⟩) (hpiv o ho a w hS hA)) hend
structure Region.AtL (ops : Array Oper) (V : Nat → Value → World → Prop) (a0 : Act) (k : Nat) (a : Act) (w : World) : Prop where
 defers : a.defers = a0.defers
 size : a.tmps.size = a0.tmps.size
 got : ∀ j t, j < k → Region.dstOf ops j = some t → V j (a.tmps.getD t undef) w
 old : ∀ t, (∀ j, j < k → Region.dstOf ops j ≠ some t) → a.tmps.getD t undef = a0.tmps.getD t undef
theorem Region.AtL.got' {V : Nat → Value → World → Prop} {a0 : Act} {a : Act} {w : World} {i : Nat} (h : Region.AtL ops V a0 i a w) (j : Nat) (t : Tmp) (hj : decide (j < i) = true := by kernel_rfl) (ht : Region.dstOf ops j = some t := by kernel_rfl) :
  V j (a.tmps.getD t undef) w := h.got j t (by simpa using hj) ht
theorem Region.AtL.old' {V : Nat → Value → World → Prop} {a0 : Act} {a : Act} {w : World} {i : Nat} (h : Region.AtL ops V a0 i a w) (t : Tmp) (ht : ((List.range i).all fun j => Region.dstOf ops j != some t) = true := by kernel_rfl) :
  a.tmps.getD t undef = a0.tmps.getD t undef := h.old t fun j hj he => by
 have := List.all_eq_true.1 ht j (by simpa using hj)
 rw [he] at this
 simp at this
def Region.StepsL (P : Program) (ops : Array Oper) (Q : Exit → Act → World → Prop) (V : Nat → Value → World → Prop) (G : World → World → Prop) (S : World → Prop) (a0 : Act) (m : Nat) : Nat → List Oper → Prop
 | _, [] => True
 | i, o :: l => (i ≠ m → ∀ a w, S w → Region.AtL ops V a0 i a w → Region.Step P ops Q V G i o a w o.guard) ∧ Region.StepsL P ops Q V G S a0 m (i + 1) l
theorem Region.StepsL.at {V : Nat → Value → World → Prop} {G : World → World → Prop} {S : World → Prop} {a0 : Act} {m : Nat} : ∀ (l : List Oper) (k : Nat), Region.StepsL P ops Q V G S a0 m k l → ∀ i o, l[i]? = some o → k + i ≠ m → ∀ a w, S w → Region.AtL ops V a0 (k + i) a w →
   Region.Step P ops Q V G (k + i) o a w o.guard := by
 intro l
 induction l with
 | nil => intro k _ i o h; simp at h
 | cons x l ih =>
  intro k h i o hi
  cases i with
  | zero => simp at hi; subst hi; exact h.1
  | succ i =>
   have := ih (k + 1) h.2 i o (by simpa using hi)
   rw [show k + 1 + i = k + (i + 1) by omega] at this
   exact this
theorem wpOps_seq {a0 : Act} (n : Nat) (hn : a0.tmps.size = n) (m : Nat) (hm : m + 1 ≥ ops.size)
  (V : Nat → Value → World → Prop) (S : World → Prop)
  (G : World → World → Prop) (hR : ∀ w, G w w) (hG : ∀ w w', S w → G w w' → S w' ∧ ∀ j v, V j v w → V j v w')
  (hbare : Region.bareAt ops m = true) (hok : Region.dstsOk ops n = true) (hap : Region.dstsApart ops = true)
  (hstep : Region.StepsL P ops Q V G S a0 m 0 ops.toList)
  (hend : ∀ a w, S w → Region.AtL ops V a0 (if m < ops.size then m else ops.size) a w → match ops[m]? with | none => Q .normal a w | some o => o.wp P a w (fun a' w' => Q .normal a' w') Q) :
  ∀ d k a w, k + d = ops.size → S w → Region.AtL ops V a0 k a w → (k = ops.size → m ≥ ops.size) → wpOps P ops Q (List.range' k d) a w := by
 have hwant : ∀ (o : Oper) y, ops[m]? = some o → Region.wanted o y = true := by
  intro o y ho
  unfold Region.bareAt at hbare
  rw [ho] at hbare
  simp only at hbare
  unfold Region.wanted
  cases hg : o.guard with
  | none => rfl
  | some g => rw [hg] at hbare; cases hbare
 intro d
 induction d with
 | zero =>
  intro k a w hk hS hA hmk
  have hmge := hmk (by omega)
  rw [if_neg (by omega)] at hend
  have := hend a w hS (by rw [show ops.size = k by omega]; exact hA)
  rw [Array.getElem?_eq_none (by omega)] at this
  exact this
 | succ d ih =>
  intro k a w hk hS hA hmk
  have hklt : k < ops.size := by omega
  have e : ops[k]? = some ops[k] := by simp [hklt]
  rw [List.range'_succ]
  unfold wpOps
  rw [e]
  simp only []
  by_cases hkm : k = m
  ·subst hkm
   rw [if_pos (hwant _ _ e)]
   refine .inl ?_
   have hd : d = 0 := by omega
   subst hd
   rw [if_pos hklt] at hend
   have hq := hend a w hS hA
   rw [e] at hq
   refine Oper.wp_mono (fun a' w' hq' => ?_) hq
   simpa [wpOps] using hq'
  ·have hs1 := Region.StepsL.at ops.toList 0 hstep k ops[k] (by rw [Array.getElem?_toList]; exact e) (by omega) a w hS (by rw [Nat.zero_add]; exact hA)
   rw [Nat.zero_add] at hs1
   have hs2 := hs1.both
   suffices hpost : ∀ v w', V k v w' → G w w' → wpOps P ops Q (List.range' (k + 1) d) (a.put (ops[k]).dst v) w' by
    by_cases hw : Region.wanted ops[k] (yielded ops a.tmps) = true
    ·rw [if_pos hw]
     refine .inl (Oper.wp_mono (fun a' w' hq' => ?_) (hs2.1 hw))
     obtain ⟨v, rfl, hv, hb⟩ := hq'
     exact hpost v w' hv hb
    ·rw [if_neg hw]
     exact hpost undef w (hs2.2 (by simpa using hw)) (hR _)
   intro v w' hv hb
   obtain ⟨hS', hV'⟩ := hG w w' hS hb
   refine ih (k + 1) _ w' (by omega) hS' ?_ (fun h => by omega)
   have hdst : Region.dstOf ops k = (ops[k]).dst := by unfold Region.dstOf; rw [e]; rfl
   cases hd : (ops[k]).dst with
   | none =>
    refine ⟨hA.defers, hA.size, fun j t hj ht => ?_, fun t ht => hA.old t fun j hj => ht j (by omega)⟩
    by_cases c : j = k
    ·subst c; rw [hdst, hd] at ht; cases ht
    ·exact hV' _ _ (hA.got j t (by omega) ht)
   | some x =>
    have hdi : Region.dstOf ops k = some x := by rw [hdst, hd]
    have hmem : ops[k] ∈ ops.toList := by simp
    have hdl : x < a0.tmps.size := by
     have := List.all_eq_true.1 hok _ hmem
     rw [hd] at this
     rw [hn]; simpa using this
    have hsz := hA.size
    refine ⟨hA.defers, by simpa [Act.put] using hA.size, fun j t hj ht => ?_, fun t ht => ?_⟩
    ·by_cases htd : t = x
     ·subst htd
      have hjlt : j < ops.size := by omega
      have h1 := List.all_eq_true.1 hap j (by simpa using hjlt)
      have h2 := List.all_eq_true.1 h1 k (by simpa using hklt)
      have hjk : j = k := by simpa [ht, hdi] using h2
      subst hjk
      have : (a.put (some t) v).tmps.getD t undef = v := by simp [Act.put, Array.getD, hsz, hdl]
      rw [this]; exact hv
     ·have : (a.put (some x) v).tmps.getD t undef = a.tmps.getD t undef := by
       simp [Act.put, Array.getD_eq_getD_getElem?, Array.getElem?_setIfInBounds_ne (Ne.symm htd)]
      rw [this]
      have hjk : j ≠ k := by
       rintro rfl
       rw [hdi] at ht; exact htd (Option.some.inj ht).symm
      exact hV' _ _ (hA.got j t (by omega) ht)
    ·have htd : x ≠ t := fun h => ht k (by omega) (by rw [hdi, h])
     have : (a.put (some x) v).tmps.getD t undef = a.tmps.getD t undef := by
      simp [Act.put, Array.getD_eq_getD_getElem?, Array.getElem?_setIfInBounds_ne htd]
     rw [this]; exact hA.old t fun j hj => ht j (by omega)
theorem wp_region_seq {id : Nat} {a0 : Act} {w0 : World} (n : Nat) (hn : a0.tmps.size = n) (m : Nat)
  (V : Nat → Value → World → Prop) (S : World → Prop)
  (G : World → World → Prop) (hR : ∀ w, G w w) (hG : ∀ w w', S w → G w w' → S w' ∧ ∀ j v, V j v w → V j v w')
  (hbare : Region.bareAt ops m = true) (hok : Region.dstsOk ops n = true) (hap : Region.dstsApart ops = true) (hlast : decide (m + 1 ≥ ops.size ∧ ops.size > 0) = true)
  (h0 : S w0) (hstep : Region.StepsL P ops Q V G S a0 m 0 ops.toList)
  (hend : ∀ a w, S w → Region.AtL ops V a0 (if m < ops.size then m else ops.size) a w → match ops[m]? with | none => Q .normal a w | some o => o.wp P a w (fun a' w' => Q .normal a' w') Q) :
  (Code.region id ops false).wp P Q a0 w0 := by
 have hl := of_decide_eq_true hlast
 refine wp_region ?_
 rw [List.range_eq_range']
 exact wpOps_seq n hn m hl.1 V S G hR hG hbare hok hap hstep hend ops.size 0 a0 w0 (by omega) h0 ⟨rfl, rfl, fun j t hj => absurd hj (by omega), fun _ _ => rfl⟩ (fun h => by omega)
end
end Go
namespace Go.Proofs.YtcjdideliifkhaaGreatDoor
open Go.RowKit
theorem bcell {W w1 : World} (hb : Below W.heap.size W w1) : (∀ b o, b < W.heap.size → w1.cell? ⟨b, o, none⟩ = W.cell? ⟨b, o, none⟩) ∧ (∀ b o, b < W.heap.size → w1.frozen? ⟨b, o, none⟩ = W.frozen? ⟨b, o, none⟩) :=
 ⟨fun b o h => hb.cell (p := ⟨b, o, none⟩) h, fun b o h => hb.frozen (p := ⟨b, o, none⟩) h⟩
theorem wraps_u64 (n : Int) (h₀ : 0 ≤ n) (h₁ : n < 2 ^ 64) : IntKind.u64.wrap n = n := by
 simp only [IntKind.wrap, IntKind.bits, IntKind.signed]; simp; omega
theorem and_nsec {n : Int} (h0 : 0 ≤ n) (h : n < 1000000000) : bits .and .u64 n 1073741823 = n := by
 have := bits_mask .u64 64 (by decide) wraps_u64 30 (by decide) n h0 (by omega)
 rw [show (2 : Int) ^ 30 - 1 = 1073741823 by decide] at this
 rw [this]; omega
theorem and_mono {n : Int} (h0 : 0 ≤ n) (h : n < 1000000000) : bits .and .u64 n 9223372036854775808 = 0 := by
 obtain ⟨a, rfl⟩ := Int.eq_ofNat_of_zero_le h0
 have := (bits_nat .u64 64 (by decide) wraps_u64 a (2 ^ 63) (by omega) (by decide)).1
 rw [show ((2 ^ 63 : Nat) : Int) = 9223372036854775808 by decide] at this
 rw [this]
 have : a &&& 2 ^ 63 = 0 := by
  apply Nat.eq_of_testBit_eq
  intro i
  rw [Nat.testBit_and, Nat.testBit_two_pow, Nat.zero_testBit]
  by_cases c : 63 = i
  ·subst c; rw [Nat.testBit_lt_two_pow (by omega)]; simp
  ·simp [c]
 rw [this]; rfl
theorem not_nsec {n : Int} (h0 : 0 ≤ n) (h : n < 1000000000) : bits .andNot .u64 n 1073741823 = 0 := by
 obtain ⟨a, rfl⟩ := Int.eq_ofNat_of_zero_le h0
 have ha : a < 2 ^ 30 := by omega
 simp only [bits, BitVec.ofInt_natCast]
 have : BitVec.ofNat 64 a &&& ~~~ BitVec.ofInt 64 1073741823 = BitVec.ofNat 64 0 := by
  apply BitVec.eq_of_getLsbD_eq
  intro i hi
  simp only [BitVec.getLsbD_and, BitVec.getLsbD_not, BitVec.getLsbD_ofNat]
  by_cases c : i < 30
  ·have : (BitVec.ofInt 64 1073741823).getLsbD i = true := by
    rw [show BitVec.ofInt 64 1073741823 = BitVec.ofNat 64 (2 ^ 30 - 1) by decide, BitVec.getLsbD_ofNat, Nat.testBit_two_pow_sub_one]; simp [hi, c]
   rw [this]; simp
  ·have : a.testBit i = false := Nat.testBit_lt_two_pow (Nat.lt_of_lt_of_le ha (Nat.pow_le_pow_right (by decide) (by omega)))
   rw [this]; simp
 rw [show IntKind.u64.bits = 64 from rfl, this]; rfl
abbrev tm (ns e : Int) (l : Value) : Value := .agg #[.int .u64 ns, .int .i64 e, l]
theorem nsec_c (b o : Nat) (n : Int) (h0 : 0 ≤ n) (h1 : n < 1000000000) (w : World) (h : w.cell? ⟨b, o, none⟩ = some (.int .u64 n)) :
  Calls Tryz.prog 126 #[.pointer (some ⟨b, o, none⟩)] w fun e w' => e = .returned (.int .i32 n) ∧ w = w' := by
 have h2 := and_nsec h0 h1
 go_enter Tryz.func126, Tryz.ntmps126
 go_wp2
 go_ret
 exact ⟨rfl, rfl⟩
theorem sec_c (b o : Nat) (n s : Int) (h0 : 0 ≤ n) (h1 : n < 1000000000) (w : World) (h : w.cell? ⟨b, o, none⟩ = some (.int .u64 n)) (hs : w.cell? ⟨b, o + 1, none⟩ = some (.int .i64 s)) :
  Calls Tryz.prog 147 #[.pointer (some ⟨b, o, none⟩)] w fun e w' => e = .returned (.int .i64 s) ∧ w = w' := by
 have h2 := and_mono h0 h1
 go_enter Tryz.func147, Tryz.ntmps147
 go_wp2
 go_ret
 exact ⟨rfl, rfl⟩
theorem unixSec_c (b o : Nat) (n s : Int) (h0 : 0 ≤ n) (h1 : n < 1000000000) (hs0 : -4611686018427387904 ≤ s) (hs1 : s ≤ 4611686018427387904) (w : World) (h : w.cell? ⟨b, o, none⟩ = some (.int .u64 n)) (hs : w.cell? ⟨b, o + 1, none⟩ = some (.int .i64 s)) :
  Calls Tryz.prog 125 #[.pointer (some ⟨b, o, none⟩)] w fun e w' => e = .returned (.int .i64 (s - 62135596800)) ∧ w = w' := by
 go_enter Tryz.func125, Tryz.ntmps125
 go_wp2_with fail
 refine (sec_c _ _ n s h0 h1 _ h hs).mono ?_
 rintro e w' ⟨rfl, rfl⟩
 go_wp2
 go_ret
 exact ⟨rfl, rfl⟩
theorem stripMono_c (b o : Nat) (n : Int) (h0 : 0 ≤ n) (h1 : n < 1000000000) (w : World) (h : w.cell? ⟨b, o, none⟩ = some (.int .u64 n)) :
  Calls Tryz.prog 127 #[.pointer (some ⟨b, o, none⟩)] w fun e w' => e = .returned (.tuple #[]) ∧ w = w' := by
 have h2 := and_mono h0 h1
 go_enter Tryz.func127, Tryz.ntmps127
 go_wp2
 exact bodyPost_end (v := .tuple #[]) (by simp [results, Tryz.f127, go_sem]) rfl ⟨rfl, rfl⟩
structure IsUTC (w : World) (b : Nat) : Prop where
 size : b < w.heap.size
 utc : w.cell? ⟨b, 0, none⟩ = some (.bool true)
 zone : w.cell? ⟨b, 2, none⟩ = some (.slice none 0 0)
theorem IsUTC.below {w w' : World} {b : Nat} (h : IsUTC w b) (hb : Below w.heap.size w w') : IsUTC w' b :=
 ⟨Nat.lt_of_lt_of_le h.1 hb.size, by rw [hb.cell (p := ⟨b, 0, none⟩) h.1]; exact h.2, by rw [hb.cell (p := ⟨b, 2, none⟩) h.1]; exact h.3⟩
theorem utc_c (w : World) : Calls Tryz.prog 39 #[] w fun e w' => e = .returned (.pointer (some ⟨w.heap.size, 0, none⟩)) ∧ IsUTC w' w.heap.size ∧ Below w.heap.size w w' := by
 go_enter Tryz.func39, Tryz.ntmps39
 go_wp2
 go_ret
 exact ⟨rfl, ⟨by simp, by simp [go_sem], by simp [go_sem]⟩, (Below.refl _ _).alloc (Nat.le_refl _) _⟩
theorem get_c (w : World) : Calls Tryz.prog 229 #[.pointer none] w fun e w' => e = .returned (.pointer (some ⟨w.heap.size, 0, none⟩)) ∧ IsUTC w' w.heap.size ∧ Below w.heap.size w w' := by
 go_enter Tryz.func229, Tryz.ntmps229
 go_wp2_with fail
 refine (utc_c _).mono ?_
 rintro e w' ⟨rfl, hu, hb⟩
 go_wp2
 go_ret
 exact ⟨rfl, hu, hb⟩
theorem get_some (a : Addr) (w : World) : Calls Tryz.prog 229 #[.pointer (some a)] w fun e w' => e = .returned (.pointer (some a)) ∧ w = w' := by
 go_enter Tryz.func229, Tryz.ntmps229
 go_wp2
 go_ret
 exact ⟨rfl, rfl⟩
theorem location_c (ns e : Int) (w : World) : Calls Tryz.prog 203 #[tm ns e (.pointer none)] w fun r w' => ∃ u, r = .returned (.pointer (some ⟨u, 0, none⟩)) ∧ w.heap.size ≤ u ∧ IsUTC w' u ∧ Below w.heap.size w w' := by
 go_enter Tryz.func203, Tryz.ntmps203
 go_wp2_with fail
 refine (utc_c _).mono ?_
 rintro e w' ⟨rfl, hu, hb⟩
 go_wp2
 go_ret
 exact ⟨_, rfl, by simp, by simpa using hu, ((Below.refl _ _).alloc (Nat.le_refl _) _).trans (hb.mono (by simp))⟩
theorem setLoc_utc (b o : Nat) (n : Int) (h0 : 0 ≤ n) (h1 : n < 1000000000) (u : Nat) (w : World) (h : w.cell? ⟨b, o, none⟩ = some (.int .u64 n)) (v : Value) (h3 : w.cell? ⟨b, o + 2, none⟩ = some v)
  (hf : w.frozen? ⟨b, o + 2, none⟩ = false) (hu : IsUTC w u) :
  Calls Tryz.prog 100 #[.pointer (some ⟨b, o, none⟩), .pointer (some ⟨u, 0, none⟩)] w fun e w' => e = .returned (.tuple #[]) ∧ w.setCell ⟨b, o + 2, none⟩ (.pointer none) = w' := by
 have k1 := hu.utc
 go_enter Tryz.func100, Tryz.ntmps100
 go_wp2_with fail
 refine (stripMono_c _ _ n h0 h1 _ h).mono ?_
 rintro e w' ⟨rfl, rfl⟩
 go_wp2
 exact bodyPost_end (v := .tuple #[]) (by simp [results, Tryz.f100, go_sem]) rfl ⟨rfl, rfl⟩
theorem setLoc_zone (b o : Nat) (n : Int) (h0 : 0 ≤ n) (h1 : n < 1000000000) (u : Nat) (w : World) (h : w.cell? ⟨b, o, none⟩ = some (.int .u64 n)) (v : Value) (h3 : w.cell? ⟨b, o + 2, none⟩ = some v)
  (hf : w.frozen? ⟨b, o + 2, none⟩ = false) (k1 : w.cell? ⟨u, 0, none⟩ = some (.bool false)) :
  Calls Tryz.prog 100 #[.pointer (some ⟨b, o, none⟩), .pointer (some ⟨u, 0, none⟩)] w fun e w' => e = .returned (.tuple #[]) ∧ w.setCell ⟨b, o + 2, none⟩ (.pointer (some ⟨u, 0, none⟩)) = w' := by
 go_enter Tryz.func100, Tryz.ntmps100
 go_wp2_with fail
 refine (stripMono_c _ _ n h0 h1 _ h).mono ?_
 rintro e w' ⟨rfl, rfl⟩
 go_wp2
 exact bodyPost_end (v := .tuple #[]) (by simp [results, Tryz.f100, go_sem]) rfl ⟨rfl, rfl⟩
theorem in_utc (ns e : Int) (l : Value) (hl : ∃ p, l = .pointer p) (h0 : 0 ≤ ns) (h1 : ns < 1000000000) (u : Nat) (w : World) (hu : IsUTC w u) :
  Calls Tryz.prog 68 #[tm ns e l, .pointer (some ⟨u, 0, none⟩)] w fun r w' => r = .returned (tm ns e (.pointer none)) ∧ Below w.heap.size w w' := by
 obtain ⟨p, rfl⟩ := hl
 have k0 := hu.size
 go_enter Tryz.func68, Tryz.ntmps68
 go_wp2_with fail
 refine (setLoc_utc _ _ ns h0 h1 u _ (by simp [go_sem]) (.pointer p) (by simp [go_sem]) (by simp [go_sem]) (hu.below (((Below.refl _ _).alloc (Nat.le_refl _) _).alloc (by simp) _))).mono ?_
 rintro e w' ⟨rfl, rfl⟩
 go_wp2
 exact bodyPost_ret (v := tm ns e (.pointer none)) (by simp [results, Tryz.f68, go_sem]) rfl ⟨rfl, ((Below.refl _ _).alloc (Nat.le_refl _) _).alloc (by simp) _⟩
theorem in_zone (ns e : Int) (l : Value) (hl : ∃ p, l = .pointer p) (h0 : 0 ≤ ns) (h1 : ns < 1000000000) (u : Nat) (w : World) (k0 : u < w.heap.size) (k1 : w.cell? ⟨u, 0, none⟩ = some (.bool false)) :
  Calls Tryz.prog 68 #[tm ns e l, .pointer (some ⟨u, 0, none⟩)] w fun r w' => r = .returned (tm ns e (.pointer (some ⟨u, 0, none⟩))) ∧ Below w.heap.size w w' := by
 obtain ⟨p, rfl⟩ := hl
 go_enter Tryz.func68, Tryz.ntmps68
 go_wp2_with fail
 refine (setLoc_zone _ _ ns h0 h1 u _ (by simp [go_sem]) (.pointer p) (by simp [go_sem]) (by simp [go_sem]) (by rw [(((Below.refl w.heap.size w).alloc (Nat.le_refl _) _).alloc (by simp) _).cell (p := ⟨u, 0, none⟩) k0]; exact k1)).mono ?_
 rintro e w' ⟨rfl, rfl⟩
 go_wp2
 exact bodyPost_ret (v := tm ns e (.pointer (some ⟨u, 0, none⟩))) (by simp [results, Tryz.f68, go_sem]) rfl ⟨rfl, ((Below.refl _ _).alloc (Nat.le_refl _) _).alloc (by simp) _⟩
theorem isZero_c (ns e : Int) (l : Value) (hl : ∃ p, l = .pointer p) (w : World) :
  Calls Tryz.prog 65 #[tm ns e l] w fun r w' => r = .returned (.bool (decide (ns = 0 ∧ e = 0))) ∧ Below w.heap.size w w' := by
 obtain ⟨p, rfl⟩ := hl
 by_cases c : ns = 0 <;> by_cases d : e = 0
 all_goals
  try subst c
  try subst d
  go_enter Tryz.func65, Tryz.ntmps65
  go_wp2
  go_ret
  exact ⟨by simp [*], (Below.refl _ _).alloc (Nat.le_refl _) _⟩
theorem unix_c (ns e : Int) (l : Value) (hl : ∃ p, l = .pointer p) (h0 : 0 ≤ ns) (h1 : ns < 1000000000) (hs0 : -4611686018427387904 ≤ e) (hs1 : e ≤ 4611686018427387904) (w : World) :
  Calls Tryz.prog 97 #[tm ns e l] w fun r w' => r = .returned (.int .i64 (e - 62135596800)) ∧ Below w.heap.size w w' := by
 obtain ⟨p, rfl⟩ := hl
 go_enter Tryz.func97, Tryz.ntmps97
 go_wp2_with fail
 refine (unixSec_c _ _ ns e h0 h1 hs0 hs1 _ (by simp [go_sem]) (by simp [go_sem])).mono ?_
 rintro e w' ⟨rfl, rfl⟩
 go_wp2
 go_ret
 exact ⟨rfl, (Below.refl _ _).alloc (Nat.le_refl _) _⟩
theorem nanosecond_c (ns e : Int) (l : Value) (hl : ∃ p, l = .pointer p) (h0 : 0 ≤ ns) (h1 : ns < 1000000000) (w : World) :
  Calls Tryz.prog 98 #[tm ns e l] w fun r w' => r = .returned (.int .i64 ns) ∧ Below w.heap.size w w' := by
 obtain ⟨p, rfl⟩ := hl
 go_enter Tryz.func98, Tryz.ntmps98
 go_wp2_with fail
 refine (nsec_c _ _ ns h0 h1 _ (by simp [go_sem])).mono ?_
 rintro e w' ⟨rfl, rfl⟩
 go_wp2
 go_ret
 exact ⟨rfl, (Below.refl _ _).alloc (Nat.le_refl _) _⟩
theorem plainMoment_c (ns e : Int) (l : Value) (hl : ∃ p, l = .pointer p) (h0 : 0 ≤ ns) (h1 : ns < 1000000000) (hs0 : -4611686018427387904 ≤ e) (hs1 : e ≤ 4611686018427387904) (w : World) :
  Calls Tryz.prog 66 #[tm ns e l] w fun r w' => r = .returned (.agg #[.int .i64 (e - 62135596800), .int .i64 ns]) ∧ Below w.heap.size w w' := by
 have hl' := hl
 obtain ⟨p, rfl⟩ := hl
 go_enter Tryz.func66, Tryz.ntmps66
 go_wp2
 go_region_with (first
   | (go_at_call 97; refine (unix_c ns e _ hl' h0 h1 hs0 hs1 _).mono ?_; rintro e w1 ⟨rfl, hb⟩; obtain ⟨hc, hf⟩ := bcell hb; have hz : w.heap.size + 1 < w1.heap.size := (by have := hb.size; simp at this; omega))
   | (go_at_call 98; refine (nanosecond_c ns _ _ hl' h0 h1 _).mono ?_; rintro e w2 ⟨rfl, hb2⟩; obtain ⟨hc2, hf2⟩ := bcell hb2; have hz2 : w.heap.size + 1 < w2.heap.size := (by have := hb2.size; omega)))
 all_goals
  go_wp2
  exact bodyPost_ret (v := .agg #[.int .i64 (e - 62135596800), .int .i64 ns]) (by simp [results, Tryz.f66, go_sem, hc, hc2, hz, hz2]) rfl
   ⟨rfl, (((((Below.refl _ _).alloc (Nat.le_refl _) _).alloc (by simp) _).drew.trans (hb.mono (by simp; omega))).trans (hb2.mono (by omega))).setCell (by simp) _ |>.setCell (by simp) _⟩
end Go.Proofs.YtcjdideliifkhaaGreatDoor
