import Derived.Below
import Derived.KernelRfl
import Derived.Laws.BitsLemmas
import Derived.Lib.Hide
import Derived.Orders
import Derived.Test.YtcjdideliifkhaaGreatDoorRows
import Derived.WalkKit
import Derived.WalkLawsBesides
import Derived.WalkSpells
set_option maxRecDepth 100000
set_option maxHeartbeats 16000000
namespace Go
open Go.RowKit
set_option linter.unusedVariables false
set_option linter.unusedSimpArgs false
def Region.dstOf (ops : Array Oper) (j : Nat) : Option Tmp := (ops[j]?).bind (·.dst)
def Region.depsOf (ops : Array Oper) (i : Nat) : List Nat := ((ops[i]?).map fun o => (o.after.toList.filter (Region.binds .any)).map (·.on)).getD []
def Region.back (ops : Array Oper) : Bool := (List.range ops.size).all fun i => (Region.depsOf ops i).all fun j => decide (j < i)
def Region.bareAt (ops : Array Oper) (m : Nat) : Bool := match ops[m]? with | some o => o.guard.isNone | none => true
def Region.dstsOk (ops : Array Oper) (n : Nat) : Bool := ops.toList.all fun o => match o.dst with | some t => decide (t < n) | none => true
def Region.dstsApart (ops : Array Oper) : Bool :=
 (List.range ops.size).all fun i => (List.range ops.size).all fun j => i == j || Region.dstOf ops i == none || Region.dstOf ops i != Region.dstOf ops j
def Region.needs (ops : Array Oper) : Nat → List Nat → List Nat
 | 0, l => l
 | k + 1, l => Region.needs ops k ((l ++ l.flatMap (Region.depsOf ops)).eraseDups)
def Region.lastIs (ops : Array Oper) (m : Nat) : Bool := decide (m ≥ ops.size) || (List.range ops.size).all fun i => (Region.needs ops ops.size [m]).contains i
structure Region.At (ops : Array Oper) (V : Nat → Value → World → Prop) (a0 : Act) (L : Nat → Prop) (a : Act) (w : World) : Prop where
 defers : a.defers = a0.defers
 size : a.tmps.size = a0.tmps.size
 got : ∀ j t, L j → Region.dstOf ops j = some t → V j (a.tmps.getD t undef) w
 old : ∀ t, (∀ j, Region.dstOf ops j ≠ some t) → a.tmps.getD t undef = a0.tmps.getD t undef
section
variable {P : Program} {ops : Array Oper} {Q : Exit → Act → World → Prop}
theorem Region.needs_mem (listed : Nat → Prop) (hcl : ∀ i, listed i → ∀ j ∈ Region.depsOf ops i, listed j) :
  ∀ (k : Nat) (l : List Nat), (∀ i ∈ l, listed i) → ∀ i ∈ Region.needs ops k l, listed i := by
 intro k
 induction k with
 | zero => intro l h i hi; exact h i hi
 | succ k ih =>
  intro l h
  refine ih _ fun i hi => ?_
  have hi' : i ∈ l ++ l.flatMap (Region.depsOf ops) := by simpa using hi
  rcases List.mem_append.1 hi' with h1 | h1
  ·exact h i h1
  ·obtain ⟨x, hx, hy⟩ := List.mem_flatMap.1 h1
   exact hcl x (h x hx) i hy
theorem Region.ready_iff (listed : Array Bool) (hs : listed.size = ops.size) (i : Nat) :
  i ∈ Region.ready .any ops listed ↔ i < ops.size ∧ listed.getD i false = false ∧ ∀ j ∈ Region.depsOf ops i, listed.getD j false = true := by
 unfold Region.ready
 simp only [List.mem_filter, List.mem_range]
 constructor
 ·rintro ⟨h1, h2⟩
  have e : ops[i]? = some ops[i] := by simp [h1]
  rw [e] at h2
  simp only [Option.map_some, Option.getD_some, Bool.and_eq_true, Bool.not_eq_true'] at h2
  refine ⟨h1, ?_, ?_⟩
  ·have := h2.1
   simpa [Array.getD, hs, h1] using this
  ·intro j hj
   unfold Region.depsOf at hj
   rw [e] at hj
   simp only [Option.map_some, Option.getD_some, List.mem_map, List.mem_filter] at hj
   obtain ⟨ed, ⟨h3, h4⟩, rfl⟩ := hj
   have := Array.all_eq_true_iff_forall_mem.1 h2.2 ed (by simpa using h3)
   simpa [h4] using this
 ·rintro ⟨h1, h2, h3⟩
  have e : ops[i]? = some ops[i] := by simp [h1]
  refine ⟨h1, ?_⟩
  rw [e]
  simp only [Option.map_some, Option.getD_some, Bool.and_eq_true, Bool.not_eq_true']
  refine ⟨by simpa [Array.getD, hs, h1] using h2, ?_⟩
  rw [Array.all_eq_true_iff_forall_mem]
  intro ed hed
  by_cases hb : Region.binds .any ed = true
  ·have := h3 ed.on (by unfold Region.depsOf; rw [e]; simp only [Option.map_some, Option.getD_some, List.mem_map, List.mem_filter]; exact ⟨ed, ⟨by simpa using hed, hb⟩, rfl⟩)
   simp [this]
  ·simp [hb]
theorem getD_set_self {listed : Array Bool} {i : Nat} (h : i < listed.size) : (listed.setIfInBounds i true).getD i false = true := by
 simp [h]
theorem wp_region_vals {id : Nat} {a0 : Act} {w0 : World} (hm : P.follows .mixedOrders = true) (m : Nat)
  (V : Nat → Value → World → Prop) (S : World → Prop)
  (G : World → World → Prop) (hR : ∀ w, G w w) (hG : ∀ w w', S w → G w w' → S w' ∧ ∀ j v, V j v w → V j v w')
  (hback : Region.back ops = true) (hbare : Region.bareAt ops m = true) (hok : Region.dstsOk ops a0.tmps.size = true) (hap : Region.dstsApart ops = true) (hlast : Region.lastIs ops m = true)
  (h0 : S w0.drew)
  (hstep : ∀ i o, ops[i]? = some o → i ≠ m → ∀ a w, S w → Region.At ops V a0 (· ∈ Region.depsOf ops i) a w →
   (Region.wanted o (yielded ops a.tmps) = true → o.wp P a w (fun a' w' => ∃ v, a' = a.put o.dst v ∧ V i v w' ∧ G w w') Q) ∧ (Region.wanted o (yielded ops a.tmps) = false → V i undef w))
  (hend : ∀ a w, S w → Region.At ops V a0 (fun j => j < ops.size ∧ j ≠ m) a w → match ops[m]? with | none => Q .normal a w | some o => o.wp P a w (fun a' w' => Q .normal a' w') Q) :
  (Code.region id ops true).wp P Q a0 w0 := by
 refine wp_region_any hm ?_
 change wpAny P .any ops Q ops.size (Array.replicate ops.size false) a0 w0.drew
 have hbk : ∀ i j, j ∈ Region.depsOf ops i → j < i := by
  intro i j hj
  by_cases hi : i < ops.size
  ·have := List.all_eq_true.1 hback i (by simpa using hi)
   have := List.all_eq_true.1 this j hj
   simpa using this
  ·unfold Region.depsOf at hj
   rw [Array.getElem?_eq_none (by omega)] at hj
   simp at hj
 have hwant : ∀ (o : Oper) y, ops[m]? = some o → Region.wanted o y = true := by
  intro o y ho
  unfold Region.bareAt at hbare
  rw [ho] at hbare
  simp only at hbare
  unfold Region.wanted
  cases hg : o.guard with
  | none => rfl
  | some g => rw [hg] at hbare; cases hbare
 have hdlt : ∀ (i : Nat) (t : Tmp), Region.dstOf ops i = some t → t < a0.tmps.size := by
  intro i t ht
  unfold Region.dstOf at ht
  cases ho : ops[i]? with
  | none => rw [ho] at ht; cases ht
  | some o =>
   rw [ho] at ht
   have : o ∈ ops.toList := by simpa using Array.mem_of_getElem? ho
   have := List.all_eq_true.1 hok o this
   simp only [Option.bind_some] at ht
   rw [ht] at this
   simpa using this
 have hdap : ∀ (i j : Nat) (t : Tmp), Region.dstOf ops i = some t → Region.dstOf ops j = some t → i = j := by
  intro i j t hi hj
  have hi1 : i < ops.size := by
   by_cases c : i < ops.size; exact c
   unfold Region.dstOf at hi; rw [Array.getElem?_eq_none (by omega)] at hi; cases hi
  have hj1 : j < ops.size := by
   by_cases c : j < ops.size; exact c
   unfold Region.dstOf at hj; rw [Array.getElem?_eq_none (by omega)] at hj; cases hj
  have := List.all_eq_true.1 hap i (by simpa using hi1)
  have := List.all_eq_true.1 this j (by simpa using hj1)
  simpa [hi, hj] using this
 have key : ∀ (fuel : Nat) (listed : Array Bool) (a : Act) (w : World), listed.size = ops.size →
   (listed.toList.filter (! ·)).length ≤ fuel → (∀ i, listed.getD i false = true → ∀ j ∈ Region.depsOf ops i, listed.getD j false = true) →
   (listed.getD m false = false ∧ S w ∧ Region.At ops V a0 (fun j => listed.getD j false = true) a w ∨ (∀ i, i < ops.size → listed.getD i false = true) ∧ Q .normal a w) →
   wpAny P .any ops Q fuel listed a w := by
  intro fuel
  have hnil : ∀ (listed : Array Bool) (a : Act) (w : World), listed.size = ops.size →
   (listed.getD m false = false ∧ S w ∧ Region.At ops V a0 (fun j => listed.getD j false = true) a w ∨ (∀ i, i < ops.size → listed.getD i false = true) ∧ Q .normal a w) →
   Region.ready .any ops listed = [] → Q .normal a w := by
   intro listed a w hs hinv hr
   have hall : ∀ n i, i < n → i < ops.size → listed.getD i false = true := by
    intro n
    induction n with
    | zero => intro i h; omega
    | succ n ih =>
     intro i hi hio
     cases hl : listed.getD i false with
     | true => rfl
     | false =>
      have : i ∈ Region.ready .any ops listed := (Region.ready_iff listed hs i).2 ⟨hio, hl, fun j hj => ih j (by have := hbk i j hj; omega) (by have := hbk i j hj; omega)⟩
      rw [hr] at this; cases this
   rcases hinv with ⟨hm0, hS, hAt⟩ | ⟨-, hQ⟩
   ·have hmge : ops.size ≤ m := by
     by_cases c : ops.size ≤ m; exact c
     rw [hall (m + 1) m (by omega) (by omega)] at hm0; cases hm0
    have := hend a w hS ⟨hAt.defers, hAt.size, fun j t hj ht => hAt.got j t (hall (j + 1) j (by omega) hj.1) ht, hAt.old⟩
    rw [Array.getElem?_eq_none hmge] at this
    exact this
   ·exact hQ
  induction fuel with
  | zero =>
   intro listed a w hs hn hcl hinv
   have hr : Region.ready .any ops listed = [] := by
    cases hr : Region.ready .any ops listed with
    | nil => rfl
    | cons i rest =>
     have hi : i ∈ Region.ready .any ops listed := by rw [hr]; simp
     obtain ⟨h1, h2, -⟩ := (Region.ready_iff listed hs i).1 hi
     have hmem : listed[i]'(by omega) ∈ listed.toList.filter (! ·) := by
      rw [List.mem_filter]
      refine ⟨by simp, ?_⟩
      simpa [Array.getD, hs, h1] using h2
     have := List.length_pos_of_mem hmem
     omega
   exact ⟨hr, hnil listed a w hs hinv hr⟩
  | succ fuel ih =>
   intro listed a w hs hn hcl hinv
   refine ⟨hnil listed a w hs hinv, fun i hi => ?_⟩
   obtain ⟨h1, h2, h3⟩ := (Region.ready_iff listed hs i).1 hi
   have hcount : ((listed.setIfInBounds i true).toList.filter (! ·)).length ≤ fuel := by
    have hlt : i < listed.toList.length := by simp; omega
    have hget : listed.toList[i] = false := by simpa [Array.getD, hs, h1] using h2
    have : ((listed.toList.set i true).filter (! ·)).length + 1 = (listed.toList.filter (! ·)).length := by
     have gen : ∀ (l : List Bool) (i : Nat) (h : i < l.length), l[i] = false → ((l.set i true).filter (! ·)).length + 1 = (l.filter (! ·)).length := by
      intro l
      induction l with
      | nil => intro i h; simp at h
      | cons x l ihl =>
       intro i h hx
       cases i with
       | zero => simp at hx; subst hx; simp
       | succ i =>
        have := ihl i (by simpa using h) (by simpa using hx)
        cases x <;> simp [List.filter_cons] <;> omega
     exact gen _ i hlt hget
    rw [Array.toList_setIfInBounds]; omega
   have hset : ∀ j, (listed.setIfInBounds i true).getD j false = true ↔ (j = i ∨ listed.getD j false = true) := by
    intro j
    by_cases hji : j = i
    ·subst hji; simp [getD_set_self (listed := listed) (i := j) (by omega)]
    ·rw [getD_set_ne false (Ne.symm hji)]; simp [hji]
   have hcl' : ∀ k, (listed.setIfInBounds i true).getD k false = true → ∀ j ∈ Region.depsOf ops k, (listed.setIfInBounds i true).getD j false = true := by
    intro k hk j hj
    rw [hset] at hk ⊢
    rcases hk with rfl | hk
    ·exact .inr (h3 j hj)
    ·exact .inr (hcl k hk j hj)
   rcases hinv with ⟨hm0, hS, hAt⟩ | ⟨hall, -⟩
   case inr => rw [hall i h1] at h2; cases h2
   have e : ops[i]? = some ops[i] := by simp [h1]
   unfold wpOp
   rw [e]
   simp only []
   by_cases him : i = m
   ·
    subst him
    have hothers : ∀ j, j < ops.size → j ≠ i → listed.getD j false = true := by
     intro j hj hji
     have hl : (List.range ops.size).all fun k => (Region.needs ops ops.size [i]).contains k := by
      unfold Region.lastIs at hlast
      simp only [Bool.or_eq_true] at hlast
      rcases hlast with h | h
      ·simp at h; omega
      ·exact h
     have hj2 := List.all_eq_true.1 hl j (by simpa using hj)
     have := Region.needs_mem (ops := ops) (fun k => (listed.setIfInBounds i true).getD k false = true) hcl' ops.size [i]
      (by intro k hk; simp at hk; subst hk; exact getD_set_self (by omega)) j (by simpa using hj2)
     have := (hset j).1 this
     exact this.resolve_left hji
    rw [if_pos (hwant _ _ e)]
    refine .inl ?_
    have hq := hend a w hS ⟨hAt.defers, hAt.size, fun j t hj ht => hAt.got j t (hothers j hj.1 hj.2) ht, hAt.old⟩
    rw [e] at hq
    refine Oper.wp_mono (fun a' w' hq' => ih _ a' w' (by simp [hs]) hcount hcl' (.inr ⟨fun j hj => ?_, hq'⟩)) hq
    rw [hset]
    by_cases c : j = i
    ·exact .inl c
    ·exact .inr (hothers j hj c)
   ·have hs2 := hstep i _ e him a w hS ⟨hAt.defers, hAt.size, fun j t hj ht => hAt.got j t (h3 j hj) ht, hAt.old⟩
    suffices hpost : ∀ v w', V i v w' → G w w' → wpAny P .any ops Q fuel (listed.setIfInBounds i true) (a.put (ops[i]).dst v) w' by
     by_cases hw : Region.wanted ops[i] (yielded ops a.tmps) = true
     ·rw [if_pos hw]
      refine .inl (Oper.wp_mono (fun a' w' hq' => ?_) (hs2.1 hw))
      obtain ⟨v, rfl, hv, hb⟩ := hq'
      exact hpost v w' hv hb
     ·rw [if_neg hw]
      exact hpost undef w (hs2.2 (by simpa using hw)) (hR _)
    intro v w' hv hb
    obtain ⟨hS', hV'⟩ := hG w w' hS hb
    refine ih _ _ w' (by simp [hs]) hcount hcl' (.inl ⟨?_, hS', ?_⟩)
    ·rw [getD_set_ne false him]; exact hm0
    ·have hdst : Region.dstOf ops i = (ops[i]).dst := by unfold Region.dstOf; rw [e]; rfl
     cases hd : (ops[i]).dst with
     | none =>
      refine ⟨hAt.defers, hAt.size, fun j t hj ht => ?_, hAt.old⟩
      rcases (hset j).1 hj with rfl | hj
      ·rw [hdst, hd] at ht; cases ht
      ·exact hV' _ _ (hAt.got j t hj ht)
     | some d =>
      have hdi : Region.dstOf ops i = some d := by rw [hdst, hd]
      have hdl := hdlt i d hdi
      have hsz := hAt.size
      refine ⟨hAt.defers, by simpa [Act.put] using hAt.size, fun j t hj ht => ?_, fun t ht => ?_⟩
      ·by_cases htd : t = d
       ·subst htd
        have := hdap i j t hdi ht
        subst this
        have : (a.put (some t) v).tmps.getD t undef = v := by simp [Act.put, Array.getD, hsz, hdl]
        rw [this]; exact hv
       ·have : (a.put (some d) v).tmps.getD t undef = a.tmps.getD t undef := by
         simp [Act.put, Array.getD_eq_getD_getElem?, Array.getElem?_setIfInBounds_ne (Ne.symm htd)]
        rw [this]
        rcases (hset j).1 hj with rfl | hj
        ·rw [hdi] at ht; exact absurd (Option.some.inj ht).symm htd
        ·exact hV' _ _ (hAt.got j t hj ht)
      ·have htd : d ≠ t := fun h => ht i (by rw [hdi, h])
       have : (a.put (some d) v).tmps.getD t undef = a.tmps.getD t undef := by
        simp [Act.put, Array.getD_eq_getD_getElem?, Array.getElem?_setIfInBounds_ne htd]
       rw [this]; exact hAt.old t ht
 refine key ops.size _ a0 w0.drew (by simp) (by simp [List.length_filter_le]) ?_ (.inl ⟨?_, h0, rfl, rfl, ?_, fun _ _ => rfl⟩)
 ·intro i hi
  exfalso
  simp [Array.getD] at hi
 ·simp [Array.getD]
 ·intro j t hj
  exfalso
  simp [Array.getD] at hj
def Region.Step (P : Program) (ops : Array Oper) (Q : Exit → Act → World → Prop) (V : Nat → Value → World → Prop) (G : World → World → Prop) (i : Nat) (o : Oper) (a : Act) (w : World) : Option (Nat × Bool) → Prop
 | none => o.wp P a w (fun a' w' => ∃ v, a' = a.put o.dst v ∧ V i v w' ∧ G w w') Q
 | some (j, want) => ∃ (t : Tmp) (b : Bool), Region.dstOf ops j = some t ∧ a.tmps.getD t undef = .bool b ∧
   (b = want → o.wp P a w (fun a' w' => ∃ v, a' = a.put o.dst v ∧ V i v w' ∧ G w w') Q) ∧ (b ≠ want → V i undef w)
def Region.Steps (P : Program) (ops : Array Oper) (Q : Exit → Act → World → Prop) (V : Nat → Value → World → Prop) (G : World → World → Prop) (S : World → Prop) (a0 : Act) (m : Nat) : Nat → List Oper → Prop
 | _, [] => True
 | i, o :: l => (i ≠ m → ∀ a w, S w → Region.At ops V a0 (· ∈ Region.depsOf ops i) a w → Region.Step P ops Q V G i o a w o.guard) ∧ Region.Steps P ops Q V G S a0 m (i + 1) l
theorem Region.Steps.at {V : Nat → Value → World → Prop} {G : World → World → Prop} {S : World → Prop} {a0 : Act} {m : Nat} : ∀ (l : List Oper) (k : Nat), Region.Steps P ops Q V G S a0 m k l → ∀ i o, l[i]? = some o → k + i ≠ m → ∀ a w, S w → Region.At ops V a0 (· ∈ Region.depsOf ops (k + i)) a w →
   Region.Step P ops Q V G (k + i) o a w o.guard := by
 intro l
 induction l with
 | nil => intro k _ i o h; simp at h
 | cons x l ih =>
  intro k h i o hi
  cases i with
  | zero => simp at hi; subst hi; exact h.1
  | succ i =>
   have := ih (k + 1) h.2 i o (by simpa using hi)
   rw [show k + 1 + i = k + (i + 1) by omega] at this
   exact this
theorem Region.Step.both {V : Nat → Value → World → Prop} {G : World → World → Prop} {i : Nat} {o : Oper} {a : Act} {w : World} (h : Region.Step P ops Q V G i o a w o.guard) :
  (Region.wanted o (yielded ops a.tmps) = true → o.wp P a w (fun a' w' => ∃ v, a' = a.put o.dst v ∧ V i v w' ∧ G w w') Q) ∧ (Region.wanted o (yielded ops a.tmps) = false → V i undef w) := by
 unfold Region.wanted
 cases hg : o.guard with
 | none =>
  rw [hg] at h
  exact ⟨fun _ => h, fun h => by cases h⟩
 | some g =>
  obtain ⟨j, want⟩ := g
  rw [hg] at h
  obtain ⟨t, b, hd, hb, h1, h2⟩ := h
  have hy : yielded ops a.tmps j = some b := by
   unfold yielded
   rw [show (ops[j]?).bind (·.dst) = some t from hd]
   simp only [Option.bind_some]
   cases ht : a.tmps[t]? with
   | none =>
    rw [Array.getD_eq_getD_getElem?, ht] at hb
    cases hb
   | some v =>
    rw [Array.getD_eq_getD_getElem?, ht] at hb
    simp only [Option.getD_some] at hb
    subst hb
    rfl
  simp only [hy]
  by_cases c : b = want
  ·subst c; exact ⟨fun _ => h1 rfl, fun h => by simp at h⟩
  ·exact ⟨fun h => by simp at h; exact absurd h c, fun _ => h2 c⟩
theorem Region.At.old' {V : Nat → Value → World → Prop} {a0 : Act} {L : Nat → Prop} {a : Act} {w : World} (h : Region.At ops V a0 L a w) (t : Tmp) (ht : (ops.toList.all fun o => o.dst != some t) = true := by kernel_rfl) :
  a.tmps.getD t undef = a0.tmps.getD t undef := by
 refine h.old t fun j hj => ?_
 unfold Region.dstOf at hj
 cases ho : ops[j]? with
 | none => rw [ho] at hj; cases hj
 | some o =>
  rw [ho] at hj
  have := List.all_eq_true.1 ht o (by simpa using Array.mem_of_getElem? ho)
  simp only [Option.bind_some] at hj
  rw [hj] at this
  simp at this
theorem Region.At.got' {V : Nat → Value → World → Prop} {a0 : Act} {a : Act} {w : World} {i : Nat} (h : Region.At ops V a0 (· ∈ Region.depsOf ops i) a w) (j : Nat) (t : Tmp) (hj : (Region.depsOf ops i).contains j = true := by kernel_rfl) (ht : Region.dstOf ops j = some t := by kernel_rfl) :
  V j (a.tmps.getD t undef) w := h.got j t (by simpa using hj) ht
theorem Region.At.end' {V : Nat → Value → World → Prop} {a0 : Act} {a : Act} {w : World} {m : Nat} (h : Region.At ops V a0 (fun j => j < ops.size ∧ j ≠ m) a w) (j : Nat) (t : Tmp) (hj : (decide (j < ops.size) && decide (j ≠ m)) = true := by kernel_rfl) (ht : Region.dstOf ops j = some t := by kernel_rfl) :
  V j (a.tmps.getD t undef) w := h.got j t (by simpa using hj) ht
theorem foldl_at (g : Nat → Value) : ∀ (l : List (Tmp × Value)) (arr : Array Value), (∀ p ∈ l, g p.1 = p.2) → (l.foldl (fun t p => t.setIfInBounds p.1 p.2) arr).size = arr.size ∧
  ∀ i, i < arr.size → (l.foldl (fun t p => t.setIfInBounds p.1 p.2) arr).getD i undef = if i ∈ l.map (·.1) then g i else arr.getD i undef := by
 intro l
 induction l with
 | nil => intro arr _; simp
 | cons p l ih =>
  intro arr h
  have ih' := ih (arr.setIfInBounds p.1 p.2) (fun q hq => h q (List.mem_cons_of_mem _ hq))
  rw [List.foldl_cons]
  refine ⟨by rw [ih'.1]; simp, fun i hi => ?_⟩
  rw [ih'.2 i (by simpa using hi)]
  by_cases c : i ∈ l.map (·.1)
  ·rw [if_pos c, if_pos (by rw [List.map_cons]; exact List.mem_cons_of_mem _ c)]
  ·rw [if_neg c]
   by_cases e : p.1 = i
   ·rw [if_pos (by rw [List.map_cons, ← e]; exact List.mem_cons_self ..)]
    subst e
    rw [h p (List.mem_cons_self ..)]
    simp [hi]
   ·rw [if_neg (by rw [List.map_cons, List.mem_cons]; rintro (h1 | h1); exact e h1.symm; exact c h1)]
    simp [Array.getD_eq_getD_getElem?, Array.getElem?_setIfInBounds_ne e]
theorem Region.At.frame {V : Nat → Value → World → Prop} {a0 : Act} {L : Nat → Prop} {a : Act} {w : World} (h : Region.At ops V a0 L a w) (l : List (Tmp × Value)) (hl : ∀ p ∈ l, a.tmps.getD p.1 undef = p.2)
  (hcov : (ops.toList.all fun o => match o.dst with | some t => (l.map (·.1)).contains t | none => true) = true) :
  a = { tmps := l.foldl (fun t p => t.setIfInBounds p.1 p.2) a0.tmps, defers := a0.defers } := by
 have hf := foldl_at (fun i => a.tmps.getD i undef) l a0.tmps hl
 have ht : a.tmps = l.foldl (fun t p => t.setIfInBounds p.1 p.2) a0.tmps := by
  apply Array.ext
  ·rw [hf.1, h.size]
  ·intro i h1 h2
   have hi : i < a0.tmps.size := by rw [← h.size]; exact h1
   have h3 := hf.2 i hi
   have h4 : (l.foldl (fun t p => t.setIfInBounds p.1 p.2) a0.tmps).getD i undef = (l.foldl (fun t p => t.setIfInBounds p.1 p.2) a0.tmps)[i] := by rw [Array.getD, dif_pos h2]; rfl
   have h5 : a.tmps.getD i undef = a.tmps[i] := by rw [Array.getD, dif_pos h1]; rfl
   rw [← h4, h3, ← h5]
   by_cases c : i ∈ l.map (·.1)
   ·rw [if_pos c]
   ·rw [if_neg c]
    refine h.old i fun j hj => c ?_
    unfold Region.dstOf at hj
    cases ho : ops[j]? with
    | none => rw [ho] at hj; cases hj
    | some o =>
     rw [ho] at hj
     have := List.all_eq_true.1 hcov o (by simpa using Array.mem_of_getElem? ho)
     simp only [Option.bind_some] at hj
     rw [hj] at this
     simpa using this
 obtain ⟨t, d⟩ := a
 simp only at ht
 rw [ht, show d = a0.defers from h.defers]
theorem wp_region_stepsG {id : Nat} {a0 : Act} {w0 : World} (hm : P.follows .mixedOrders = true) (n : Nat) (hn : a0.tmps.size = n) (m : Nat)
  (V : Nat → Value → World → Prop) (S : World → Prop)
  (G : World → World → Prop) (hR : ∀ w, G w w) (hG : ∀ w w', S w → G w w' → S w' ∧ ∀ j v, V j v w → V j v w')
  (hback : Region.back ops = true) (hbare : Region.bareAt ops m = true) (hok : Region.dstsOk ops n = true) (hap : Region.dstsApart ops = true) (hlast : Region.lastIs ops m = true)
  (h0 : S w0.drew) (hstep : Region.Steps P ops Q V G S a0 m 0 ops.toList)
  (hend : ∀ a w, S w → Region.At ops V a0 (fun j => j < ops.size ∧ j ≠ m) a w → match ops[m]? with | none => Q .normal a w | some o => o.wp P a w (fun a' w' => Q .normal a' w') Q) :
  (Code.region id ops true).wp P Q a0 w0 :=
 wp_region_vals hm m V S G hR hG hback hbare (hn ▸ hok) hap hlast h0
  (fun i o ho him a w hS hA => by
   have := Region.Steps.at ops.toList 0 hstep i o (by simpa using ho) (by omega) a w hS (by rw [Nat.zero_add]; exact hA)
   rw [Nat.zero_add] at this; exact this.both) hend
theorem wp_region_steps {id : Nat} {a0 : Act} {w0 : World} (hm : P.follows .mixedOrders = true) (n : Nat) (hn : a0.tmps.size = n) (m : Nat)
  (V : Nat → Value → World → Prop) (S : World → Prop)
  (hG : ∀ w w', S w → Below w.heap.size w w' → S w' ∧ ∀ j v, V j v w → V j v w')
  (hback : Region.back ops = true) (hbare : Region.bareAt ops m = true) (hok : Region.dstsOk ops n = true) (hap : Region.dstsApart ops = true) (hlast : Region.lastIs ops m = true)
  (h0 : S w0.drew) (hstep : Region.Steps P ops Q V (fun w w' => Below w.heap.size w w') S a0 m 0 ops.toList)
  (hend : ∀ a w, S w → Region.At ops V a0 (fun j => j < ops.size ∧ j ≠ m) a w → match ops[m]? with | none => Q .normal a w | some o => o.wp P a w (fun a' w' => Q .normal a' w') Q) :
  (Code.region id ops true).wp P Q a0 w0 :=
 wp_region_stepsG hm n hn m V S _ (fun w => Below.refl _ _) hG hback hbare hok hap hlast h0 hstep hend
theorem wpOps_vals {a0 : Act} (n : Nat) (hn : a0.tmps.size = n) (m : Nat) (hm : m + 1 ≥ ops.size)
  (V : Nat → Value → World → Prop) (S : World → Prop)
  (G : World → World → Prop) (hR : ∀ w, G w w) (hG : ∀ w w', S w → G w w' → S w' ∧ ∀ j v, V j v w → V j v w')
  (hback : Region.back ops = true) (hbare : Region.bareAt ops m = true) (hok : Region.dstsOk ops n = true) (hap : Region.dstsApart ops = true)
  (hstep : ∀ i o, ops[i]? = some o → i ≠ m → ∀ a w, S w → Region.At ops V a0 (· ∈ Region.depsOf ops i) a w →
   (Region.wanted o (yielded ops a.tmps) = true → o.wp P a w (fun a' w' => ∃ v, a' = a.put o.dst v ∧ V i v w' ∧ G w w') Q) ∧ (Region.wanted o (yielded ops a.tmps) = false → V i undef w))
  (hend : ∀ a w, S w → Region.At ops V a0 (fun j => j < ops.size ∧ j ≠ m) a w → match ops[m]? with | none => Q .normal a w | some o => o.wp P a w (fun a' w' => Q .normal a' w') Q) :
  ∀ d k a w, k + d = ops.size → S w → Region.At ops V a0 (· < k) a w → (k = ops.size → m ≥ ops.size) → wpOps P ops Q (List.range' k d) a w := by
 have hbk : ∀ i j, j ∈ Region.depsOf ops i → j < i := by
  intro i j hj
  by_cases hi : i < ops.size
  ·have := List.all_eq_true.1 hback i (by simpa using hi)
   have := List.all_eq_true.1 this j hj
   simpa using this
  ·unfold Region.depsOf at hj
   rw [Array.getElem?_eq_none (by omega)] at hj
   simp at hj
 have hwant : ∀ (o : Oper) y, ops[m]? = some o → Region.wanted o y = true := by
  intro o y ho
  unfold Region.bareAt at hbare
  rw [ho] at hbare
  simp only at hbare
  unfold Region.wanted
  cases hg : o.guard with
  | none => rfl
  | some g => rw [hg] at hbare; cases hbare
 intro d
 induction d with
 | zero =>
  intro k a w hk hS hA hmk
  have hmge := hmk (by omega)
  have := hend a w hS ⟨hA.defers, hA.size, fun j t hj ht => hA.got j t (by omega) ht, hA.old⟩
  rw [Array.getElem?_eq_none (by omega)] at this
  exact this
 | succ d ih =>
  intro k a w hk hS hA hmk
  have hklt : k < ops.size := by omega
  have e : ops[k]? = some ops[k] := by simp [hklt]
  rw [List.range'_succ]
  unfold wpOps
  rw [e]
  simp only []
  by_cases hkm : k = m
  ·subst hkm
   rw [if_pos (hwant _ _ e)]
   refine .inl ?_
   have hd : d = 0 := by omega
   subst hd
   have hq := hend a w hS ⟨hA.defers, hA.size, fun j t hj ht => hA.got j t (by omega) ht, hA.old⟩
   rw [e] at hq
   refine Oper.wp_mono (fun a' w' hq' => ?_) hq
   simpa [wpOps] using hq'
  ·have hs2 := hstep k _ e hkm a w hS ⟨hA.defers, hA.size, fun j t hj ht => hA.got j t (hbk k j hj) ht, hA.old⟩
   suffices hpost : ∀ v w', V k v w' → G w w' → wpOps P ops Q (List.range' (k + 1) d) (a.put (ops[k]).dst v) w' by
    by_cases hw : Region.wanted ops[k] (yielded ops a.tmps) = true
    ·rw [if_pos hw]
     refine .inl (Oper.wp_mono (fun a' w' hq' => ?_) (hs2.1 hw))
     obtain ⟨v, rfl, hv, hb⟩ := hq'
     exact hpost v w' hv hb
    ·rw [if_neg hw]
     exact hpost undef w (hs2.2 (by simpa using hw)) (hR _)
   intro v w' hv hb
   obtain ⟨hS', hV'⟩ := hG w w' hS hb
   refine ih (k + 1) _ w' (by omega) hS' ?_ (fun h => by omega)
   have hdst : Region.dstOf ops k = (ops[k]).dst := by unfold Region.dstOf; rw [e]; rfl
   cases hd : (ops[k]).dst with
   | none =>
    refine ⟨hA.defers, hA.size, fun j t hj ht => ?_, hA.old⟩
    by_cases c : j = k
    ·subst c; rw [hdst, hd] at ht; cases ht
    ·exact hV' _ _ (hA.got j t (by omega) ht)
   | some x =>
    have hdi : Region.dstOf ops k = some x := by rw [hdst, hd]
    have hmem : ops[k] ∈ ops.toList := by simp
    have hdl : x < a0.tmps.size := by
     have := List.all_eq_true.1 hok _ hmem
     rw [hd] at this
     rw [hn]; simpa using this
    have hsz := hA.size
    refine ⟨hA.defers, by simpa [Act.put] using hA.size, fun j t hj ht => ?_, fun t ht => ?_⟩
    ·by_cases htd : t = x
     ·subst htd
      have hjlt : j < ops.size := by omega
      have h1 := List.all_eq_true.1 hap j (by simpa using hjlt)
      have h2 := List.all_eq_true.1 h1 k (by simpa using hklt)
      have hjk : j = k := by simpa [ht, hdi] using h2
      subst hjk
      have : (a.put (some t) v).tmps.getD t undef = v := by simp [Act.put, Array.getD, hsz, hdl]
      rw [this]; exact hv
     ·have : (a.put (some x) v).tmps.getD t undef = a.tmps.getD t undef := by
       simp [Act.put, Array.getD_eq_getD_getElem?, Array.getElem?_setIfInBounds_ne (Ne.symm htd)]
      rw [this]
      have hjk : j ≠ k := by
       rintro rfl
       rw [hdi] at ht; exact htd (Option.some.inj ht).symm
      exact hV' _ _ (hA.got j t (by omega) ht)
    ·have htd : x ≠ t := fun h => ht k (by rw [hdi, h])
     have : (a.put (some x) v).tmps.getD t undef = a.tmps.getD t undef := by
      simp [Act.put, Array.getD_eq_getD_getElem?, Array.getElem?_setIfInBounds_ne htd]
     rw [this]; exact hA.old t ht
theorem wp_region_lineG {id : Nat} {a0 : Act} {w0 : World} (n : Nat) (hn : a0.tmps.size = n) (m : Nat)
  (V : Nat → Value → World → Prop) (S : World → Prop)
  (G : World → World → Prop) (hR : ∀ w, G w w) (hG : ∀ w w', S w → G w w' → S w' ∧ ∀ j v, V j v w → V j v w')
  (hback : Region.back ops = true) (hbare : Region.bareAt ops m = true) (hok : Region.dstsOk ops n = true) (hap : Region.dstsApart ops = true) (hlast : decide (m + 1 ≥ ops.size ∧ ops.size > 0) = true)
  (h0 : S w0) (hstep : Region.Steps P ops Q V G S a0 m 0 ops.toList)
  (hend : ∀ a w, S w → Region.At ops V a0 (fun j => j < ops.size ∧ j ≠ m) a w → match ops[m]? with | none => Q .normal a w | some o => o.wp P a w (fun a' w' => Q .normal a' w') Q) :
  (Code.region id ops false).wp P Q a0 w0 := by
 have hl := of_decide_eq_true hlast
 refine wp_region ?_
 rw [List.range_eq_range']
 refine wpOps_vals n hn m hl.1 V S G hR hG hback hbare hok hap (fun i o ho him a w hS hA => ?_) hend ops.size 0 a0 w0 (by omega) h0 ⟨rfl, rfl, fun j t hj => absurd hj (by omega), fun _ _ => rfl⟩ (fun h => by omega)
 have := Region.Steps.at ops.toList 0 hstep i o (by simpa using ho) (by omega) a w hS (by rw [Nat.zero_add]; exact hA)
 rw [Nat.zero_add] at this; exact this.both
theorem wp_region_line {id : Nat} {a0 : Act} {w0 : World} (n : Nat) (hn : a0.tmps.size = n) (m : Nat)
  (V : Nat → Value → World → Prop) (S : World → Prop)
  (hG : ∀ w w', S w → Below w.heap.size w w' → S w' ∧ ∀ j v, V j v w → V j v w')
  (hback : Region.back ops = true) (hbare : Region.bareAt ops m = true) (hok : Region.dstsOk ops n = true) (hap : Region.dstsApart ops = true) (hlast : decide (m + 1 ≥ ops.size ∧ ops.size > 0) = true)
  (h0 : S w0) (hstep : Region.Steps P ops Q V (fun w w' => Below w.heap.size w w') S a0 m 0 ops.toList)
  (hend : ∀ a w, S w → Region.At ops V a0 (fun j => j < ops.size ∧ j ≠ m) a w → match ops[m]? with | none => Q .normal a w | some o => o.wp P a w (fun a' w' => Q .normal a' w') Q) :
  (Code.region id ops false).wp P Q a0 w0 :=
 wp_region_lineG n hn m V S _ (fun w => Below.refl _ _) hG hback hbare hok hap hlast h0 hstep hend
end
section
variable {P : Program} {ops : Array Oper} {Q : Exit → Act → World → Prop}
end
end Go
namespace Go.Proofs.YtcjdideliifkhaaGreatDoor
open Go.RowKit
theorem bcell {W w1 : World} (hb : Below W.heap.size W w1) : (∀ b o, b < W.heap.size → w1.cell? ⟨b, o, none⟩ = W.cell? ⟨b, o, none⟩) ∧ (∀ b o, b < W.heap.size → w1.frozen? ⟨b, o, none⟩ = W.frozen? ⟨b, o, none⟩) :=
 ⟨fun b o h => hb.cell (p := ⟨b, o, none⟩) h, fun b o h => hb.frozen (p := ⟨b, o, none⟩) h⟩
theorem wraps_u64 (n : Int) (h₀ : 0 ≤ n) (h₁ : n < 2 ^ 64) : IntKind.u64.wrap n = n := by
 simp only [IntKind.wrap, IntKind.bits, IntKind.signed]; simp; omega
theorem and_nsec {n : Int} (h0 : 0 ≤ n) (h : n < 1000000000) : bits .and .u64 n 1073741823 = n := by
 have := bits_mask .u64 64 (by decide) wraps_u64 30 (by decide) n h0 (by omega)
 rw [show (2 : Int) ^ 30 - 1 = 1073741823 by decide] at this
 rw [this]; omega
theorem and_mono {n : Int} (h0 : 0 ≤ n) (h : n < 1000000000) : bits .and .u64 n 9223372036854775808 = 0 := by
 obtain ⟨a, rfl⟩ := Int.eq_ofNat_of_zero_le h0
 have := (bits_nat .u64 64 (by decide) wraps_u64 a (2 ^ 63) (by omega) (by decide)).1
 rw [show ((2 ^ 63 : Nat) : Int) = 9223372036854775808 by decide] at this
 rw [this]
 have : a &&& 2 ^ 63 = 0 := by
  apply Nat.eq_of_testBit_eq
  intro i
  rw [Nat.testBit_and, Nat.testBit_two_pow, Nat.zero_testBit]
  by_cases c : 63 = i
  ·subst c; rw [Nat.testBit_lt_two_pow (by omega)]; simp
  ·simp [c]
 rw [this]; rfl
theorem not_nsec {n : Int} (h0 : 0 ≤ n) (h : n < 1000000000) : bits .andNot .u64 n 1073741823 = 0 := by
 obtain ⟨a, rfl⟩ := Int.eq_ofNat_of_zero_le h0
 have ha : a < 2 ^ 30 := by omega
 simp only [bits, BitVec.ofInt_natCast]
 have : BitVec.ofNat 64 a &&& ~~~ BitVec.ofInt 64 1073741823 = BitVec.ofNat 64 0 := by
  apply BitVec.eq_of_getLsbD_eq
  intro i hi
  simp only [BitVec.getLsbD_and, BitVec.getLsbD_not, BitVec.getLsbD_ofNat]
  by_cases c : i < 30
  ·have : (BitVec.ofInt 64 1073741823).getLsbD i = true := by
    rw [show BitVec.ofInt 64 1073741823 = BitVec.ofNat 64 (2 ^ 30 - 1) by decide, BitVec.getLsbD_ofNat, Nat.testBit_two_pow_sub_one]; simp [hi, c]
   rw [this]; simp
  ·have : a.testBit i = false := Nat.testBit_lt_two_pow (Nat.lt_of_lt_of_le ha (Nat.pow_le_pow_right (by decide) (by omega)))
   rw [this]; simp
 rw [show IntKind.u64.bits = 64 from rfl, this]; rfl
end Go.Proofs.YtcjdideliifkhaaGreatDoor
