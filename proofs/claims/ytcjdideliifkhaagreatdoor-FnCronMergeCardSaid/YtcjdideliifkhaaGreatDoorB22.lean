import Derived.Test.YtcjdideliifkhaaGreatDoorB21
set_option maxRecDepth 100000
set_option maxHeartbeats 16000000
namespace Go
open Go.RowKit
set_option linter.unusedVariables false
set_option linter.unusedSimpArgs false
section
variable {P : Program} {ops : Array Oper} {Q : Exit → Act → World → Prop}
def Region.StepG {Γ : Type} (P : Program) (ops : Array Oper) (Q : Exit → Act → World → Prop) (V : Γ → Nat → Value → World → Prop) (S : Γ → (Nat → Prop) → World → Prop) (L : Nat → Prop) (γ : Γ) (i : Nat) (o : Oper) (a : Act) (w : World) : Option (Nat × Bool) → Prop
 | none => o.wp P a w (fun a' w' => ∃ v γ', a' = a.put o.dst v ∧ V γ' i v w' ∧ S γ' (fun j => j = i ∨ L j) w' ∧ ∀ j t, L j → Region.dstOf ops j = some t → V γ j (a.tmps.getD t undef) w → V γ' j (a.tmps.getD t undef) w') Q
 | some _ => False
def Region.StepsG {Γ : Type} (P : Program) (ops : Array Oper) (Q : Exit → Act → World → Prop) (V : Γ → Nat → Value → World → Prop) (S : Γ → (Nat → Prop) → World → Prop) (a0 : Act) (m : Nat) : Nat → List Oper → Prop
 | _, [] => True
 | i, o :: l => (i ≠ m → ∀ γ a w (L : Nat → Prop), S γ L w → Region.At ops (V γ) a0 L a w → ¬ L i → (∀ j ∈ Region.depsOf ops i, L j) → (∀ k, L k → ∀ j ∈ Region.depsOf ops k, L j) → (∀ t, (∀ j, j ≠ m → Region.dstOf ops j ≠ some t) → a.tmps.getD t undef = a0.tmps.getD t undef) → Region.StepG P ops Q V S L γ i o a w o.guard) ∧ Region.StepsG P ops Q V S a0 m (i + 1) l
theorem Region.StepsG.at {Γ : Type} {V : Γ → Nat → Value → World → Prop} {S : Γ → (Nat → Prop) → World → Prop} {a0 : Act} {m : Nat} : ∀ (l : List Oper) (k : Nat), Region.StepsG P ops Q V S a0 m k l → ∀ i o, l[i]? = some o → k + i ≠ m →
   ∀ γ a w (L : Nat → Prop), S γ L w → Region.At ops (V γ) a0 L a w → ¬ L (k + i) → (∀ j ∈ Region.depsOf ops (k + i), L j) → (∀ k, L k → ∀ j ∈ Region.depsOf ops k, L j) → (∀ t, (∀ j, j ≠ m → Region.dstOf ops j ≠ some t) → a.tmps.getD t undef = a0.tmps.getD t undef) → Region.StepG P ops Q V S L γ (k + i) o a w o.guard := by
 intro l
 induction l with
 | nil => intro k _ i o h; simp at h
 | cons x l ih =>
  intro k h i o hi
  cases i with
  | zero => simp at hi; subst hi; exact h.1
  | succ i =>
   have := ih (k + 1) h.2 i o (by simpa using hi)
   rw [show k + 1 + i = k + (i + 1) by omega] at this
   exact this
def Region.onlyAt (ops : Array Oper) (m : Nat) (t : Tmp) : Bool := (List.range ops.size).all fun j => j == m || Region.dstOf ops j != some t
theorem Region.not_at {m : Nat} {t : Tmp} (h : Region.onlyAt ops m t = true) : ∀ j, j ≠ m → Region.dstOf ops j ≠ some t := by
 intro j hj e
 have hjl : j < ops.size := by
  by_cases c : j < ops.size; exact c
  unfold Region.dstOf at e; rw [Array.getElem?_eq_none (by omega)] at e; cases e
 have := List.all_eq_true.1 h j (by simpa using hjl)
 simp [e, hj] at this
theorem wp_region_ghost {Γ : Type} {id : Nat} {a0 : Act} {w0 : World} (hm : P.follows .mixedOrders = true) (n : Nat) (hn : a0.tmps.size = n) (m : Nat)
  (V : Γ → Nat → Value → World → Prop) (S : Γ → (Nat → Prop) → World → Prop) (γ0 : Γ)
  (hback : Region.back ops = true) (hbare : Region.bareAt ops m = true) (hok' : Region.dstsOk ops n = true) (hap : Region.dstsApart ops = true) (hlast : Region.lastIs ops m = true)
  (h0 : S γ0 (fun _ => False) w0.drew)
  (hstep : Region.StepsG P ops Q V S a0 m 0 ops.toList)
  (hend : ∀ γ a w (L : Nat → Prop), S γ L w → (∀ j, j < ops.size → j ≠ m → L j) → (∀ t, (∀ j, j ≠ m → Region.dstOf ops j ≠ some t) → a.tmps.getD t undef = a0.tmps.getD t undef) → Region.At ops (V γ) a0 (fun j => j < ops.size ∧ j ≠ m) a w → match ops[m]? with | none => Q .normal a w | some o => o.wp P a w (fun a' w' => Q .normal a' w') Q) :
  (Code.region id ops true).wp P Q a0 w0 := by
 have hok : Region.dstsOk ops a0.tmps.size = true := hn ▸ hok'
 have hstep1 : ∀ i o, ops[i]? = some o → i ≠ m → ∀ γ a w (L : Nat → Prop), S γ L w → Region.At ops (V γ) a0 L a w → ¬ L i → (∀ j ∈ Region.depsOf ops i, L j) → (∀ k, L k → ∀ j ∈ Region.depsOf ops k, L j) → (∀ t, (∀ j, j ≠ m → Region.dstOf ops j ≠ some t) → a.tmps.getD t undef = a0.tmps.getD t undef) → Region.StepG P ops Q V S L γ i o a w o.guard := by
  intro i o ho him γ a w L hS hA h1 h2 h3 h4
  have := Region.StepsG.at ops.toList 0 hstep i o (by simpa using ho) (by omega) γ a w L hS hA (by rw [Nat.zero_add]; exact h1) (by rw [Nat.zero_add]; exact h2) h3 h4
  rw [Nat.zero_add] at this
  exact this
 refine wp_region_any hm ?_
 change wpAny P .any ops Q ops.size (Array.replicate ops.size false) a0 w0.drew
 have hbk : ∀ i j, j ∈ Region.depsOf ops i → j < i := by
  intro i j hj
  by_cases hi : i < ops.size
  ·have := List.all_eq_true.1 hback i (by simpa using hi)
   have := List.all_eq_true.1 this j hj
   simpa using this
  ·unfold Region.depsOf at hj
   rw [Array.getElem?_eq_none (by omega)] at hj
   simp at hj
 have hwant : ∀ (o : Oper) y, ops[m]? = some o → Region.wanted o y = true := by
  intro o y ho
  unfold Region.bareAt at hbare
  rw [ho] at hbare
  simp only at hbare
  unfold Region.wanted
  cases hg : o.guard with
  | none => rfl
  | some g => rw [hg] at hbare; cases hbare
 have hdlt : ∀ (i : Nat) (t : Tmp), Region.dstOf ops i = some t → t < a0.tmps.size := by
  intro i t ht
  unfold Region.dstOf at ht
  cases ho : ops[i]? with
  | none => rw [ho] at ht; cases ht
  | some o =>
   rw [ho] at ht
   have : o ∈ ops.toList := by simpa using Array.mem_of_getElem? ho
   have := List.all_eq_true.1 hok o this
   simp only [Option.bind_some] at ht
   rw [ht] at this
   simpa using this
 have hdap : ∀ (i j : Nat) (t : Tmp), Region.dstOf ops i = some t → Region.dstOf ops j = some t → i = j := by
  intro i j t hi hj
  have hi1 : i < ops.size := by
   by_cases c : i < ops.size; exact c
   unfold Region.dstOf at hi; rw [Array.getElem?_eq_none (by omega)] at hi; cases hi
  have hj1 : j < ops.size := by
   by_cases c : j < ops.size; exact c
   unfold Region.dstOf at hj; rw [Array.getElem?_eq_none (by omega)] at hj; cases hj
  have := List.all_eq_true.1 hap i (by simpa using hi1)
  have := List.all_eq_true.1 this j (by simpa using hj1)
  simpa [hi, hj] using this
 have key : ∀ (fuel : Nat) (listed : Array Bool) (a : Act) (w : World), listed.size = ops.size →
   (listed.toList.filter (! ·)).length ≤ fuel → (∀ i, listed.getD i false = true → ∀ j ∈ Region.depsOf ops i, listed.getD j false = true) →
   ((∃ γ, listed.getD m false = false ∧ S γ (fun j => listed.getD j false = true) w ∧ Region.At ops (V γ) a0 (fun j => listed.getD j false = true) a w ∧ (∀ t, (∀ j, listed.getD j false = true → Region.dstOf ops j ≠ some t) → a.tmps.getD t undef = a0.tmps.getD t undef)) ∨ (∀ i, i < ops.size → listed.getD i false = true) ∧ Q .normal a w) →
   wpAny P .any ops Q fuel listed a w := by
  intro fuel
  have hnil : ∀ (listed : Array Bool) (a : Act) (w : World), listed.size = ops.size →
   ((∃ γ, listed.getD m false = false ∧ S γ (fun j => listed.getD j false = true) w ∧ Region.At ops (V γ) a0 (fun j => listed.getD j false = true) a w ∧ (∀ t, (∀ j, listed.getD j false = true → Region.dstOf ops j ≠ some t) → a.tmps.getD t undef = a0.tmps.getD t undef)) ∨ (∀ i, i < ops.size → listed.getD i false = true) ∧ Q .normal a w) →
   Region.ready .any ops listed = [] → Q .normal a w := by
   intro listed a w hs hinv hr
   have hall : ∀ n i, i < n → i < ops.size → listed.getD i false = true := by
    intro n
    induction n with
    | zero => intro i h; omega
    | succ n ih =>
     intro i hi hio
     cases hl : listed.getD i false with
     | true => rfl
     | false =>
      have : i ∈ Region.ready .any ops listed := (Region.ready_iff listed hs i).2 ⟨hio, hl, fun j hj => ih j (by have := hbk i j hj; omega) (by have := hbk i j hj; omega)⟩
      rw [hr] at this; cases this
   rcases hinv with ⟨γ, hm0, hS, hAt, hO⟩ | ⟨-, hQ⟩
   ·have hmge : ops.size ≤ m := by
     by_cases c : ops.size ≤ m; exact c
     rw [hall (m + 1) m (by omega) (by omega)] at hm0; cases hm0
    have := hend γ a w _ hS (fun j hj hjm => hall (j + 1) j (by omega) hj) (fun t ht => hO t fun j hj => ht j (fun e => by subst e; rw [hm0] at hj; cases hj)) ⟨hAt.defers, hAt.size, fun j t hj ht => hAt.got j t (hall (j + 1) j (by omega) hj.1) ht, hAt.old⟩
    rw [Array.getElem?_eq_none hmge] at this
    exact this
   ·exact hQ
  induction fuel with
  | zero =>
   intro listed a w hs hn hcl hinv
   have hr : Region.ready .any ops listed = [] := by
    cases hr : Region.ready .any ops listed with
    | nil => rfl
    | cons i rest =>
     have hi : i ∈ Region.ready .any ops listed := by rw [hr]; simp
     obtain ⟨h1, h2, -⟩ := (Region.ready_iff listed hs i).1 hi
     have hmem : listed[i]'(by omega) ∈ listed.toList.filter (! ·) := by
      rw [List.mem_filter]
      refine ⟨by simp, ?_⟩
      simpa [Array.getD, hs, h1] using h2
     have := List.length_pos_of_mem hmem
     omega
   exact ⟨hr, hnil listed a w hs hinv hr⟩
  | succ fuel ih =>
   intro listed a w hs hn hcl hinv
   refine ⟨hnil listed a w hs hinv, fun i hi => ?_⟩
   obtain ⟨h1, h2, h3⟩ := (Region.ready_iff listed hs i).1 hi
   have hcount : ((listed.setIfInBounds i true).toList.filter (! ·)).length ≤ fuel := by
    have hlt : i < listed.toList.length := by simp; omega
    have hget : listed.toList[i] = false := by simpa [Array.getD, hs, h1] using h2
    have : ((listed.toList.set i true).filter (! ·)).length + 1 = (listed.toList.filter (! ·)).length := by
     have gen : ∀ (l : List Bool) (i : Nat) (h : i < l.length), l[i] = false → ((l.set i true).filter (! ·)).length + 1 = (l.filter (! ·)).length := by
      intro l
      induction l with
      | nil => intro i h; simp at h
      | cons x l ihl =>
       intro i h hx
       cases i with
       | zero => simp at hx; subst hx; simp
       | succ i =>
        have := ihl i (by simpa using h) (by simpa using hx)
        cases x <;> simp [List.filter_cons] <;> omega
     exact gen _ i hlt hget
    rw [Array.toList_setIfInBounds]; omega
   have hset : ∀ j, (listed.setIfInBounds i true).getD j false = true ↔ (j = i ∨ listed.getD j false = true) := by
    intro j
    by_cases hji : j = i
    ·subst hji; simp [getD_set_self (listed := listed) (i := j) (by omega)]
    ·rw [getD_set_ne false (Ne.symm hji)]; simp [hji]
   have hcl' : ∀ k, (listed.setIfInBounds i true).getD k false = true → ∀ j ∈ Region.depsOf ops k, (listed.setIfInBounds i true).getD j false = true := by
    intro k hk j hj
    rw [hset] at hk ⊢
    rcases hk with rfl | hk
    ·exact .inr (h3 j hj)
    ·exact .inr (hcl k hk j hj)
   rcases hinv with ⟨γ, hm0, hS, hAt, hO⟩ | ⟨hall, -⟩
   case inr => rw [hall i h1] at h2; cases h2
   have e : ops[i]? = some ops[i] := by simp [h1]
   unfold wpOp
   rw [e]
   simp only []
   by_cases him : i = m
   ·
    subst him
    have hothers : ∀ j, j < ops.size → j ≠ i → listed.getD j false = true := by
     intro j hj hji
     have hl : (List.range ops.size).all fun k => (Region.needs ops ops.size [i]).contains k := by
      unfold Region.lastIs at hlast
      simp only [Bool.or_eq_true] at hlast
      rcases hlast with h | h
      ·simp at h; omega
      ·exact h
     have hj2 := List.all_eq_true.1 hl j (by simpa using hj)
     have := Region.needs_mem (ops := ops) (fun k => (listed.setIfInBounds i true).getD k false = true) hcl' ops.size [i]
      (by intro k hk; simp at hk; subst hk; exact getD_set_self (by omega)) j (by simpa using hj2)
     have := (hset j).1 this
     exact this.resolve_left hji
    rw [if_pos (hwant _ _ e)]
    refine .inl ?_
    have hq := hend γ a w _ hS (fun j hj hji => hothers j hj hji) (fun t ht => hO t fun j hj => ht j (fun e => by subst e; rw [hm0] at hj; cases hj)) ⟨hAt.defers, hAt.size, fun j t hj ht => hAt.got j t (hothers j hj.1 hj.2) ht, hAt.old⟩
    rw [e] at hq
    refine Oper.wp_mono (fun a' w' hq' => ih _ a' w' (by simp [hs]) hcount hcl' (.inr ⟨fun j hj => ?_, hq'⟩)) hq
    rw [hset]
    by_cases c : j = i
    ·exact .inl c
    ·exact .inr (hothers j hj c)
   ·suffices hpost : ∀ v γ' w', V γ' i v w' → S γ' (fun j => j = i ∨ listed.getD j false = true) w' → (∀ j t, listed.getD j false = true → Region.dstOf ops j = some t → V γ j (a.tmps.getD t undef) w → V γ' j (a.tmps.getD t undef) w') →
      wpAny P .any ops Q fuel (listed.setIfInBounds i true) (a.put (ops[i]).dst v) w' by
     have hs2 := hstep1 i _ e him γ a w (fun j => listed.getD j false = true) hS hAt (by rw [h2]; decide) h3 hcl (fun t ht => hO t fun j hj => ht j (fun e => by subst e; rw [hm0] at hj; cases hj))
     have hg : (ops[i]).guard = none := by
      cases hg : (ops[i]).guard with
      | none => rfl
      | some g => rw [hg] at hs2; exact hs2.elim
     rw [hg] at hs2
     rw [if_pos (by unfold Region.wanted; rw [hg])]
     refine .inl (Oper.wp_mono (fun a' w' hq' => ?_) hs2)
     obtain ⟨v, γ', rfl, hv, hb, hk⟩ := hq'
     exact hpost v γ' w' hv hb hk
    intro v γ' w' hv hS' hV'
    refine ih _ _ w' (by simp [hs]) hcount hcl' (.inl ⟨γ', ?_, (show (fun j => (listed.setIfInBounds i true).getD j false = true) = (fun j => j = i ∨ listed.getD j false = true) from funext fun j => propext (hset j)) ▸ hS', ?_, ?_⟩)
    ·rw [getD_set_ne false him]; exact hm0
    ·have hdst : Region.dstOf ops i = (ops[i]).dst := by unfold Region.dstOf; rw [e]; rfl
     cases hd : (ops[i]).dst with
     | none =>
      refine ⟨hAt.defers, hAt.size, fun j t hj ht => ?_, hAt.old⟩
      rcases (hset j).1 hj with rfl | hj
      ·rw [hdst, hd] at ht; cases ht
      ·exact hV' _ _ hj ht (hAt.got j t hj ht)
     | some d =>
      have hdi : Region.dstOf ops i = some d := by rw [hdst, hd]
      have hdl := hdlt i d hdi
      have hsz := hAt.size
      refine ⟨hAt.defers, by simpa [Act.put] using hAt.size, fun j t hj ht => ?_, fun t ht => ?_⟩
      ·by_cases htd : t = d
       ·subst htd
        have := hdap i j t hdi ht
        subst this
        have : (a.put (some t) v).tmps.getD t undef = v := by simp [Act.put, Array.getD, hsz, hdl]
        rw [this]; exact hv
       ·have : (a.put (some d) v).tmps.getD t undef = a.tmps.getD t undef := by
         simp [Act.put, Array.getD_eq_getD_getElem?, Array.getElem?_setIfInBounds_ne (Ne.symm htd)]
        rw [this]
        rcases (hset j).1 hj with rfl | hj
        ·rw [hdi] at ht; exact absurd (Option.some.inj ht).symm htd
        ·exact hV' _ _ hj ht (hAt.got j t hj ht)
      ·have htd : d ≠ t := fun h => ht i (by rw [hdi, h])
       have : (a.put (some d) v).tmps.getD t undef = a.tmps.getD t undef := by
        simp [Act.put, Array.getD_eq_getD_getElem?, Array.getElem?_setIfInBounds_ne htd]
       rw [this]; exact hAt.old t ht
    ·intro t ht
     have hdst : Region.dstOf ops i = (ops[i]).dst := by unfold Region.dstOf; rw [e]; rfl
     have hold := hO t fun j hj => ht j ((hset j).2 (.inr hj))
     cases hd : (ops[i]).dst with
     | none => exact hold
     | some d =>
      have htd : d ≠ t := fun h => ht i ((hset i).2 (.inl rfl)) (by rw [hdst, hd, h])
      have : (a.put (some d) v).tmps.getD t undef = a.tmps.getD t undef := by
       simp [Act.put, Array.getD_eq_getD_getElem?, Array.getElem?_setIfInBounds_ne htd]
      rw [this]; exact hold
 refine key ops.size _ a0 w0.drew (by simp) (by simp [List.length_filter_le]) ?_ (.inl ⟨γ0, ?_, (show (fun j => (Array.replicate ops.size false).getD j false = true) = (fun _ => False) from funext fun j => propext ⟨fun h => by simp [Array.getD] at h, False.elim⟩) ▸ h0, ⟨rfl, rfl, ?_, fun _ _ => rfl⟩, fun _ _ => rfl⟩)
 ·intro i hi
  exfalso
  simp [Array.getD] at hi
 ·simp [Array.getD]
 ·intro j t hj
  exfalso
  simp [Array.getD] at hj
end
section
variable {P : Program} {ops : Array Oper} {Q : Exit → Act → World → Prop}
theorem Region.StepG.pure {Γ : Type} {V : Γ → Nat → Value → World → Prop} {S : Γ → (Nat → Prop) → World → Prop} {L : Nat → Prop} {γ : Γ} {i : Nat} {o : Oper} {a : Act} {w : World} {X : Value} (hg : o.guard = none)
  (h : o.wp P a w (fun a' w' => ∃ v, a' = a.put o.dst v ∧ v = X ∧ w' = w) Q) (hV : V γ i X w) (hS : S γ (fun j => j = i ∨ L j) w) : Region.StepG P ops Q V S L γ i o a w o.guard := by
 rw [hg]
 exact Oper.wp_mono (fun a' w' ⟨v, h1, h2, h3⟩ => ⟨v, γ, h1, by rw [h2, h3]; exact hV, by rw [h3]; exact hS, fun j t _ _ h => by rw [h3]; exact h⟩) h
theorem Region.At.gotL {V : Nat → Value → World → Prop} {a0 : Act} {L : Nat → Prop} {a : Act} {w : World} {i : Nat} (h : Region.At ops V a0 L a w) (hd : ∀ j ∈ Region.depsOf ops i, L j) (j : Nat) (t : Tmp) (hj : (Region.depsOf ops i).contains j = true := by kernel_rfl) (ht : Region.dstOf ops j = some t := by kernel_rfl) :
  V j (a.tmps.getD t undef) w := h.got j t (hd j (by simpa using hj)) ht
end
end Go
namespace Go.Proofs.YtcjdideliifkhaaGreatDoor
open Go.RowKit Go.Proofs.YtcjdideliifkhaaGreatDoorW.PrintWords Go.Proofs.YtcjdideliifkhaaGreatDoorW.PrintLast Go.Proofs.YtcjdideliifkhaaGreatDoorW.PrintMore PFnCronTextAfterAnywhere
def FBlk (w : World) (b : Nat) (F : CF) : Prop := w.heap[b]? = some (.cells (fcells F).toArray 38 (0, 0))
theorem FBlk.lt {w : World} {b : Nat} {F : CF} (h : FBlk w b F) : b < w.heap.size := blk_lt h
theorem FBlk.below {w w' : World} {b : Nat} {F : CF} (h : FBlk w b F) (hb : Below w.heap.size w w') : FBlk w' b F := blk_below h hb
theorem FBlk.range {w : World} {b : Nat} {F : CF} (h : FBlk w b F) : w.rangeAt b 0 (fcells F) := fun j v hv => by
 rw [Nat.zero_add, blk_cell h j, List.getElem?_toArray]; exact hv
theorem FBlk.there {w : World} {b : Nat} {F : CF} (h : FBlk w b F) (o n : Nat) (hn : o + n ≤ 384) : w.there b o n := fun j hj => by
 rw [blk_cell h, List.getElem?_toArray]
 exact ⟨by rw [List.getElem?_eq_getElem (by rw [fcells_len]; omega)]; rfl, blk_frozen h _⟩
theorem setCells_heap2 (b : Nat) (t : TypeId) : ∀ (vs : List Value) (o : Nat) (w : World) (cs : List Value), w.heap[b]? = some (.cells cs.toArray t (0, 0)) → o + vs.length ≤ cs.length →
  (w.setCells b o vs).heap[b]? = some (.cells (cs.take o ++ vs ++ cs.drop (o + vs.length)).toArray t (0, 0)) := by
 intro vs
 induction vs with
 | nil => intro o w cs h hl; rw [World.setCells, h]; simp
 | cons v vs ih =>
  intro o w cs h hl
  rw [World.setCells]
  have h1 : (w.setCell ⟨b, o, none⟩ v).heap[b]? = some (.cells (cs.set o v).toArray t (0, 0)) := blk_put h o v (by rw [List.setIfInBounds_toArray])
  rw [ih (o + 1) _ _ h1 (by simp at hl ⊢; omega)]
  have e1 : (cs.set o v).take (o + 1) = cs.take o ++ [v] := by
   simp at hl
   rw [List.take_set, List.take_succ_eq_append_getElem (by omega), List.set_append_right _ _ (by simp; omega)]
   simp [show min o cs.length = o by omega]
  have e2 : (cs.set o v).drop (o + 1 + vs.length) = cs.drop (o + (v :: vs).length) := by
   rw [List.drop_set_of_lt (by omega)]
   congr 1; simp; omega
  rw [e1, e2]; simp
def CF.put (F : CF) (k : Nat) (s : CSet) : CF := fun j => if j = k then s else F j
theorem fcells_put (F : CF) (k : Nat) (hk : k < 6) (s : CSet) : (fcells F).take (64 * k) ++ s.cells ++ (fcells F).drop (64 * k + s.cells.length) = fcells (F.put k s) := by
 apply List.ext_getElem?
 intro j
 rw [CSet.cells_len]
 by_cases c1 : j < 64 * k
 ·rw [List.append_assoc, List.getElem?_append_left (by simp [fcells_len]; omega), List.getElem?_take, if_pos c1]
  have e : j = 64 * (j / 64) + j % 64 := by omega
  rw [e, fcells_at F _ _ (by omega) (by omega), fcells_at (F.put k s) _ _ (by omega) (by omega)]
  unfold CF.put
  rw [if_neg (by omega)]
 ·by_cases c2 : j < 64 * k + 64
  ·rw [List.getElem?_append_left (by simp [fcells_len, CSet.cells_len]; omega), List.getElem?_append_right (by simp [fcells_len]; omega)]
   have e : j = 64 * k + (j - 64 * k) := by omega
   have e2 : j - ((fcells F).take (64 * k)).length = j - 64 * k := by simp [fcells_len]; omega
   rw [e2, e, fcells_at (F.put k s) _ _ hk (by omega)]
   unfold CF.put
   rw [if_pos rfl]
   congr 1; omega
  ·rw [List.getElem?_append_right (by simp [fcells_len, CSet.cells_len]; omega), List.getElem?_drop]
   have e0 : 64 * k + 64 + (j - ((fcells F).take (64 * k) ++ s.cells).length) = j := by simp [fcells_len, CSet.cells_len]; omega
   rw [e0]
   by_cases c3 : j < 384
   ·have e : j = 64 * (j / 64) + j % 64 := by omega
    rw [e, fcells_at F _ _ (by omega) (by omega), fcells_at (F.put k s) _ _ (by omega) (by omega)]
    unfold CF.put
    rw [if_neg (by omega)]
   ·rw [List.getElem?_eq_none (by rw [fcells_len]; omega), List.getElem?_eq_none (by rw [fcells_len]; omega)]
theorem FBlk.put {w : World} {b : Nat} {F : CF} (h : FBlk w b F) (k : Nat) (hk : k < 6) (s : CSet) : FBlk (w.setCells b (64 * k) s.cells.toArray.toList) b (F.put k s) := by
 have := setCells_heap2 b 38 s.cells (64 * k) w (fcells F) h (by rw [CSet.cells_len, fcells_len]; omega)
 rw [fcells_put F k hk s] at this
 simpa [FBlk] using this
theorem FBlk.all {w : World} {b : Nat} {F : CF} (h : FBlk w b F) (G : CF) : FBlk (w.setCells b 0 (fcells G).toArray.toList) b G := by
 have := setCells_heap2 b 38 (fcells G) 0 w (fcells F) h (by rw [fcells_len, fcells_len]; omega)
 rw [List.drop_of_length_le (by rw [fcells_len, fcells_len]; omega)] at this
 simpa [FBlk] using this
theorem all_fcells (F : CF) : (fcells F).toArray.all (·.oneCell') = true := all_oneCell_toArray fun v hv => by
 unfold fcells at hv
 obtain ⟨s, _, hs⟩ := List.mem_flatMap.1 hv
 have := all_cells s
 exact (Array.all_eq_true_iff_forall_mem.1 this) v (by simpa using hs)
def CF.zero : CF := fun _ => CSet.zero
theorem exec_alloc38 (ρ : Operand → Value) (op : Oper) (ho : op.op = .alloc 38) (W : World) : (execOp ρ op).run Tryz.prog W = .ok (.value (.pointer (some ⟨W.heap.size, 0, none⟩))) (W.alloc (.cells (fcells CF.zero).toArray 38)) := by
 unfold execOp
 rw [ho]
 kernel_rfl
theorem wpList_alloc_six {ops : Array Oper} {rest : List Oper} {op : Oper} {a : Act} {w : World} {Q : Exit → Act → World → Prop} (hgd : op.guard = none) (ho : op.op = .alloc 38)
  (h : ∀ g, g = w.heap.size → ∀ w1, FBlk w1 g CF.zero → Below w.heap.size w w1 → g < w1.heap.size → wpList Tryz.prog ops Q rest (a.put op.dst (.pointer (some ⟨g, 0, none⟩))) w1) : wpList Tryz.prog ops Q (op :: rest) a w :=
 wpList_plain hgd fun _ hK => by
  unfold Oper.wp
  rw [exec_alloc38 _ op ho w]
  have hb : FBlk (w.alloc (.cells (fcells CF.zero).toArray 38)) w.heap.size CF.zero := blk_new w _
  exact hK _ _ (h _ rfl _ hb (below_alloc (Below.refl _ _) _) hb.lt)
theorem wpList_store_six {ops : Array Oper} {rest : List Oper} {op : Oper} {a : Act} {w : World} {Q : Exit → Act → World → Prop} (hgd : op.guard = none) (x y : Operand) (ho : op.op = .store 38 x y)
  (b : Nat) (F G : CF) (hx : a.eval x = .pointer (some ⟨b, 0, none⟩)) (hy : a.eval y = .agg (fcells G).toArray) (hs : FBlk w b F)
  (h : ∀ w1, FBlk w1 b G → (∀ B, B ≤ b → Below B w w1) → wpList Tryz.prog ops Q rest (a.put op.dst undef) w1) : wpList Tryz.prog ops Q (op :: rest) a w :=
 wpList_store_mid hgd 38 x y ho b 0 (fcells G).toArray hx hy (by rw [List.size_toArray, fcells_len]; exact hs.there 0 384 (by omega)) (by rw [List.size_toArray, fcells_len]; kernel_rfl) (all_fcells G)
  (h _ (hs.all G) (fun B hB => setCells_below b B hB _ 0 w w (Below.refl _ _)))
theorem wp_store_one {op : Oper} {a : Act} {w : World} {K : Act → World → Prop} {Q : Exit → Act → World → Prop} (x y : Operand) (ho : op.op = .store 36 x y)
  (b k : Nat) (hk : k < 6) (F : CF) (s : CSet) (hx : a.eval x = .pointer (some ⟨b, 64 * k, none⟩)) (hy : a.eval y = .agg s.cells.toArray) (hs : FBlk w b F)
  (h : ∀ w1, FBlk w1 b (F.put k s) → (∀ B, B ≤ b → Below B w w1) → (∀ i, i < w.heap.size → i ≠ b → w1.heap[i]? = w.heap[i]?) → w1.heap.size = w.heap.size → K (a.put op.dst undef) w1) : op.wp Tryz.prog a w K Q :=
 wp_store_mid 36 x y ho b (64 * k) s.cells.toArray hx hy (by rw [List.size_toArray, CSet.cells_len]; exact hs.there _ 64 (by omega)) (by rw [List.size_toArray, CSet.cells_len]; kernel_rfl) (all_cells s)
  (h _ (hs.put k hk s) (fun B hB => setCells_below b B hB _ _ w w (Below.refl _ _)) (fun i hi hne => World.heap_setCells_other w b _ _ hi hne) (setCells_size b _ _ w))
theorem wp_store_set {op : Oper} {a : Act} {w : World} {K : Act → World → Prop} {Q : Exit → Act → World → Prop} (x y : Operand) (ho : op.op = .store 36 x y)
  (b : Nat) (s s' : CSet) (hx : a.eval x = .pointer (some ⟨b, 0, none⟩)) (hy : a.eval y = .agg s'.cells.toArray) (hs : SAt w b s)
  (h : ∀ w1, SAt w1 b s' → (∀ B, B ≤ b → Below B w w1) → K (a.put op.dst undef) w1) : op.wp Tryz.prog a w K Q :=
 wp_store_mid 36 x y ho b 0 s'.cells.toArray hx hy (by rw [List.size_toArray, CSet.cells_len]; exact hs.there) (by rw [List.size_toArray, CSet.cells_len]; kernel_rfl) (all_cells s')
  (h _ (hs.put s') (fun B hB => setCells_below b B hB _ 0 w w (Below.refl _ _)))
end Go.Proofs.YtcjdideliifkhaaGreatDoor
