import Derived.Test.YtcjdideliifkhaaGreatDoorB42
set_option maxRecDepth 100000
set_option maxHeartbeats 16000000
namespace Go
open Go.RowKit
set_option linter.unusedVariables false
set_option linter.unusedSimpArgs false
section
variable {P : Program} {ops : Array Oper} {Q : Exit → Act → World → Prop}
def Region.StepsGL {Γ : Type} (P : Program) (ops : Array Oper) (Q : Exit → Act → World → Prop) (V : Γ → Nat → Value → World → Prop) (S : Γ → (Nat → Prop) → World → Prop) (a0 : Act) (m : Nat) : Nat → List Oper → Prop
 | _, [] => True
 | i, o :: l => (i ≠ m → ∀ γ a w (L : Nat → Prop), S γ L w → Region.At ops (V γ) a0 L a w → ¬ L i → (∀ j ∈ Region.depsOf ops i, L j) → (∀ k, L k → ∀ j ∈ Region.depsOf ops k, L j) → (∀ t, (∀ j, L j → Region.dstOf ops j ≠ some t) → a.tmps.getD t undef = a0.tmps.getD t undef) → Region.StepG P ops Q V S L γ i o a w o.guard) ∧ Region.StepsGL P ops Q V S a0 m (i + 1) l
theorem Region.StepsGL.at {Γ : Type} {V : Γ → Nat → Value → World → Prop} {S : Γ → (Nat → Prop) → World → Prop} {a0 : Act} {m : Nat} : ∀ (l : List Oper) (k : Nat), Region.StepsGL P ops Q V S a0 m k l → ∀ i o, l[i]? = some o → k + i ≠ m →
   ∀ γ a w (L : Nat → Prop), S γ L w → Region.At ops (V γ) a0 L a w → ¬ L (k + i) → (∀ j ∈ Region.depsOf ops (k + i), L j) → (∀ k, L k → ∀ j ∈ Region.depsOf ops k, L j) → (∀ t, (∀ j, L j → Region.dstOf ops j ≠ some t) → a.tmps.getD t undef = a0.tmps.getD t undef) → Region.StepG P ops Q V S L γ (k + i) o a w o.guard := by
 intro l
 induction l with
 | nil => intro k _ i o h; simp at h
 | cons x l ih =>
  intro k h i o hi
  cases i with
  | zero => simp at hi; subst hi; exact h.1
  | succ i =>
   have := ih (k + 1) h.2 i o (by simpa using hi)
   rw [show k + 1 + i = k + (i + 1) by omega] at this
   exact this
theorem wp_region_ghostL {Γ : Type} {id : Nat} {a0 : Act} {w0 : World} (hm : P.follows .mixedOrders = true) (n : Nat) (hn : a0.tmps.size = n) (m : Nat)
  (V : Γ → Nat → Value → World → Prop) (S : Γ → (Nat → Prop) → World → Prop) (γ0 : Γ)
  (hback : Region.back ops = true) (hbare : Region.bareAt ops m = true) (hok' : Region.dstsOk ops n = true) (hap : Region.dstsApart ops = true) (hlast : Region.lastIs ops m = true)
  (h0 : S γ0 (fun _ => False) w0.drew)
  (hstep : Region.StepsGL P ops Q V S a0 m 0 ops.toList)
  (hend : ∀ γ a w (L : Nat → Prop), S γ L w → (∀ j, j < ops.size → j ≠ m → L j) → (∀ t, (∀ j, j ≠ m → Region.dstOf ops j ≠ some t) → a.tmps.getD t undef = a0.tmps.getD t undef) → Region.At ops (V γ) a0 (fun j => j < ops.size ∧ j ≠ m) a w → match ops[m]? with | none => Q .normal a w | some o => o.wp P a w (fun a' w' => Q .normal a' w') Q) :
  (Code.region id ops true).wp P Q a0 w0 := by
 have hok : Region.dstsOk ops a0.tmps.size = true := hn ▸ hok'
 have hstep1 : ∀ i o, ops[i]? = some o → i ≠ m → ∀ γ a w (L : Nat → Prop), S γ L w → Region.At ops (V γ) a0 L a w → ¬ L i → (∀ j ∈ Region.depsOf ops i, L j) → (∀ k, L k → ∀ j ∈ Region.depsOf ops k, L j) → (∀ t, (∀ j, L j → Region.dstOf ops j ≠ some t) → a.tmps.getD t undef = a0.tmps.getD t undef) → Region.StepG P ops Q V S L γ i o a w o.guard := by
  intro i o ho him γ a w L hS hA h1 h2 h3 h4
  have := Region.StepsGL.at ops.toList 0 hstep i o (by simpa using ho) (by omega) γ a w L hS hA (by rw [Nat.zero_add]; exact h1) (by rw [Nat.zero_add]; exact h2) h3 h4
  rw [Nat.zero_add] at this
  exact this
 refine wp_region_any hm ?_
 change wpAny P .any ops Q ops.size (Array.replicate ops.size false) a0 w0.drew
 have hbk : ∀ i j, j ∈ Region.depsOf ops i → j < i := by
  intro i j hj
  by_cases hi : i < ops.size
  ·have := List.all_eq_true.1 hback i (by simpa using hi)
   have := List.all_eq_true.1 this j hj
   simpa using this
  ·unfold Region.depsOf at hj
   rw [Array.getElem?_eq_none (by omega)] at hj
   simp at hj
 have hwant : ∀ (o : Oper) y, ops[m]? = some o → Region.wanted o y = true := by
  intro o y ho
  unfold Region.bareAt at hbare
  rw [ho] at hbare
  simp only at hbare
  unfold Region.wanted
  cases hg : o.guard with
  | none => rfl
  | some g => rw [hg] at hbare; cases hbare
 have hdlt : ∀ (i : Nat) (t : Tmp), Region.dstOf ops i = some t → t < a0.tmps.size := by
  intro i t ht
  unfold Region.dstOf at ht
  cases ho : ops[i]? with
  | none => rw [ho] at ht; cases ht
  | some o =>
   rw [ho] at ht
   have : o ∈ ops.toList := by simpa using Array.mem_of_getElem? ho
   have := List.all_eq_true.1 hok o this
   simp only [Option.bind_some] at ht
   rw [ht] at this
   simpa using this
 have hdap : ∀ (i j : Nat) (t : Tmp), Region.dstOf ops i = some t → Region.dstOf ops j = some t → i = j := by
  intro i j t hi hj
  have hi1 : i < ops.size := by
   by_cases c : i < ops.size; exact c
   unfold Region.dstOf at hi; rw [Array.getElem?_eq_none (by omega)] at hi; cases hi
  have hj1 : j < ops.size := by
   by_cases c : j < ops.size; exact c
   unfold Region.dstOf at hj; rw [Array.getElem?_eq_none (by omega)] at hj; cases hj
  have := List.all_eq_true.1 hap i (by simpa using hi1)
  have := List.all_eq_true.1 this j (by simpa using hj1)
  simpa [hi, hj] using this
 have key : ∀ (fuel : Nat) (listed : Array Bool) (a : Act) (w : World), listed.size = ops.size →
   (listed.toList.filter (! ·)).length ≤ fuel → (∀ i, listed.getD i false = true → ∀ j ∈ Region.depsOf ops i, listed.getD j false = true) →
   ((∃ γ, listed.getD m false = false ∧ S γ (fun j => listed.getD j false = true) w ∧ Region.At ops (V γ) a0 (fun j => listed.getD j false = true) a w ∧ (∀ t, (∀ j, listed.getD j false = true → Region.dstOf ops j ≠ some t) → a.tmps.getD t undef = a0.tmps.getD t undef)) ∨ (∀ i, i < ops.size → listed.getD i false = true) ∧ Q .normal a w) →
   wpAny P .any ops Q fuel listed a w := by
  intro fuel
  have hnil : ∀ (listed : Array Bool) (a : Act) (w : World), listed.size = ops.size →
   ((∃ γ, listed.getD m false = false ∧ S γ (fun j => listed.getD j false = true) w ∧ Region.At ops (V γ) a0 (fun j => listed.getD j false = true) a w ∧ (∀ t, (∀ j, listed.getD j false = true → Region.dstOf ops j ≠ some t) → a.tmps.getD t undef = a0.tmps.getD t undef)) ∨ (∀ i, i < ops.size → listed.getD i false = true) ∧ Q .normal a w) →
   Region.ready .any ops listed = [] → Q .normal a w := by
   intro listed a w hs hinv hr
   have hall : ∀ n i, i < n → i < ops.size → listed.getD i false = true := by
    intro n
    induction n with
    | zero => intro i h; omega
    | succ n ih =>
     intro i hi hio
     cases hl : listed.getD i false with
     | true => rfl
     | false =>
      have : i ∈ Region.ready .any ops listed := (Region.ready_iff listed hs i).2 ⟨hio, hl, fun j hj => ih j (by have := hbk i j hj; omega) (by have := hbk i j hj; omega)⟩
      rw [hr] at this; cases this
   rcases hinv with ⟨γ, hm0, hS, hAt, hO⟩ | ⟨-, hQ⟩
   ·have hmge : ops.size ≤ m := by
     by_cases c : ops.size ≤ m; exact c
     rw [hall (m + 1) m (by omega) (by omega)] at hm0; cases hm0
    have := hend γ a w _ hS (fun j hj hjm => hall (j + 1) j (by omega) hj) (fun t ht => hO t fun j hj => ht j (fun e => by subst e; rw [hm0] at hj; cases hj)) ⟨hAt.defers, hAt.size, fun j t hj ht => hAt.got j t (hall (j + 1) j (by omega) hj.1) ht, hAt.old⟩
    rw [Array.getElem?_eq_none hmge] at this
    exact this
   ·exact hQ
  induction fuel with
  | zero =>
   intro listed a w hs hn hcl hinv
   have hr : Region.ready .any ops listed = [] := by
    cases hr : Region.ready .any ops listed with
    | nil => rfl
    | cons i rest =>
     have hi : i ∈ Region.ready .any ops listed := by rw [hr]; simp
     obtain ⟨h1, h2, -⟩ := (Region.ready_iff listed hs i).1 hi
     have hmem : listed[i]'(by omega) ∈ listed.toList.filter (! ·) := by
      rw [List.mem_filter]
      refine ⟨by simp, ?_⟩
      simpa [Array.getD, hs, h1] using h2
     have := List.length_pos_of_mem hmem
     omega
   exact ⟨hr, hnil listed a w hs hinv hr⟩
  | succ fuel ih =>
   intro listed a w hs hn hcl hinv
   refine ⟨hnil listed a w hs hinv, fun i hi => ?_⟩
   obtain ⟨h1, h2, h3⟩ := (Region.ready_iff listed hs i).1 hi
   have hcount : ((listed.setIfInBounds i true).toList.filter (! ·)).length ≤ fuel := by
    have hlt : i < listed.toList.length := by simp; omega
    have hget : listed.toList[i] = false := by simpa [Array.getD, hs, h1] using h2
    have : ((listed.toList.set i true).filter (! ·)).length + 1 = (listed.toList.filter (! ·)).length := by
     have gen : ∀ (l : List Bool) (i : Nat) (h : i < l.length), l[i] = false → ((l.set i true).filter (! ·)).length + 1 = (l.filter (! ·)).length := by
      intro l
      induction l with
      | nil => intro i h; simp at h
      | cons x l ihl =>
       intro i h hx
       cases i with
       | zero => simp at hx; subst hx; simp
       | succ i =>
        have := ihl i (by simpa using h) (by simpa using hx)
        cases x <;> simp [List.filter_cons] <;> omega
     exact gen _ i hlt hget
    rw [Array.toList_setIfInBounds]; omega
   have hset : ∀ j, (listed.setIfInBounds i true).getD j false = true ↔ (j = i ∨ listed.getD j false = true) := by
    intro j
    by_cases hji : j = i
    ·subst hji; simp [getD_set_self (listed := listed) (i := j) (by omega)]
    ·rw [getD_set_ne false (Ne.symm hji)]; simp [hji]
   have hcl' : ∀ k, (listed.setIfInBounds i true).getD k false = true → ∀ j ∈ Region.depsOf ops k, (listed.setIfInBounds i true).getD j false = true := by
    intro k hk j hj
    rw [hset] at hk ⊢
    rcases hk with rfl | hk
    ·exact .inr (h3 j hj)
    ·exact .inr (hcl k hk j hj)
   rcases hinv with ⟨γ, hm0, hS, hAt, hO⟩ | ⟨hall, -⟩
   case inr => rw [hall i h1] at h2; cases h2
   have e : ops[i]? = some ops[i] := by simp [h1]
   unfold wpOp
   rw [e]
   simp only []
   by_cases him : i = m
   ·
    subst him
    have hothers : ∀ j, j < ops.size → j ≠ i → listed.getD j false = true := by
     intro j hj hji
     have hl : (List.range ops.size).all fun k => (Region.needs ops ops.size [i]).contains k := by
      unfold Region.lastIs at hlast
      simp only [Bool.or_eq_true] at hlast
      rcases hlast with h | h
      ·simp at h; omega
      ·exact h
     have hj2 := List.all_eq_true.1 hl j (by simpa using hj)
     have := Region.needs_mem (ops := ops) (fun k => (listed.setIfInBounds i true).getD k false = true) hcl' ops.size [i]
      (by intro k hk; simp at hk; subst hk; exact getD_set_self (by omega)) j (by simpa using hj2)
     have := (hset j).1 this
     exact this.resolve_left hji
    rw [if_pos (hwant _ _ e)]
    refine .inl ?_
    have hq := hend γ a w _ hS (fun j hj hji => hothers j hj hji) (fun t ht => hO t fun j hj => ht j (fun e => by subst e; rw [hm0] at hj; cases hj)) ⟨hAt.defers, hAt.size, fun j t hj ht => hAt.got j t (hothers j hj.1 hj.2) ht, hAt.old⟩
    rw [e] at hq
    refine Oper.wp_mono (fun a' w' hq' => ih _ a' w' (by simp [hs]) hcount hcl' (.inr ⟨fun j hj => ?_, hq'⟩)) hq
    rw [hset]
    by_cases c : j = i
    ·exact .inl c
    ·exact .inr (hothers j hj c)
   ·suffices hpost : ∀ v γ' w', V γ' i v w' → S γ' (fun j => j = i ∨ listed.getD j false = true) w' → (∀ j t, listed.getD j false = true → Region.dstOf ops j = some t → V γ j (a.tmps.getD t undef) w → V γ' j (a.tmps.getD t undef) w') →
      wpAny P .any ops Q fuel (listed.setIfInBounds i true) (a.put (ops[i]).dst v) w' by
     have hs2 := hstep1 i _ e him γ a w (fun j => listed.getD j false = true) hS hAt (by rw [h2]; decide) h3 hcl hO
     have hg : (ops[i]).guard = none := by
      cases hg : (ops[i]).guard with
      | none => rfl
      | some g => rw [hg] at hs2; exact hs2.elim
     rw [hg] at hs2
     rw [if_pos (by unfold Region.wanted; rw [hg])]
     refine .inl (Oper.wp_mono (fun a' w' hq' => ?_) hs2)
     obtain ⟨v, γ', rfl, hv, hb, hk⟩ := hq'
     exact hpost v γ' w' hv hb hk
    intro v γ' w' hv hS' hV'
    refine ih _ _ w' (by simp [hs]) hcount hcl' (.inl ⟨γ', ?_, (show (fun j => (listed.setIfInBounds i true).getD j false = true) = (fun j => j = i ∨ listed.getD j false = true) from funext fun j => propext (hset j)) ▸ hS', ?_, ?_⟩)
    ·rw [getD_set_ne false him]; exact hm0
    ·have hdst : Region.dstOf ops i = (ops[i]).dst := by unfold Region.dstOf; rw [e]; rfl
     cases hd : (ops[i]).dst with
     | none =>
      refine ⟨hAt.defers, hAt.size, fun j t hj ht => ?_, hAt.old⟩
      rcases (hset j).1 hj with rfl | hj
      ·rw [hdst, hd] at ht; cases ht
      ·exact hV' _ _ hj ht (hAt.got j t hj ht)
     | some d =>
      have hdi : Region.dstOf ops i = some d := by rw [hdst, hd]
      have hdl := hdlt i d hdi
      have hsz := hAt.size
      refine ⟨hAt.defers, by simpa [Act.put] using hAt.size, fun j t hj ht => ?_, fun t ht => ?_⟩
      ·by_cases htd : t = d
       ·subst htd
        have := hdap i j t hdi ht
        subst this
        have : (a.put (some t) v).tmps.getD t undef = v := by simp [Act.put, Array.getD, hsz, hdl]
        rw [this]; exact hv
       ·have : (a.put (some d) v).tmps.getD t undef = a.tmps.getD t undef := by
         simp [Act.put, Array.getD_eq_getD_getElem?, Array.getElem?_setIfInBounds_ne (Ne.symm htd)]
        rw [this]
        rcases (hset j).1 hj with rfl | hj
        ·rw [hdi] at ht; exact absurd (Option.some.inj ht).symm htd
        ·exact hV' _ _ hj ht (hAt.got j t hj ht)
      ·have htd : d ≠ t := fun h => ht i (by rw [hdi, h])
       have : (a.put (some d) v).tmps.getD t undef = a.tmps.getD t undef := by
        simp [Act.put, Array.getD_eq_getD_getElem?, Array.getElem?_setIfInBounds_ne htd]
       rw [this]; exact hAt.old t ht
    ·intro t ht
     have hdst : Region.dstOf ops i = (ops[i]).dst := by unfold Region.dstOf; rw [e]; rfl
     have hold := hO t fun j hj => ht j ((hset j).2 (.inr hj))
     cases hd : (ops[i]).dst with
     | none => exact hold
     | some d =>
      have htd : d ≠ t := fun h => ht i ((hset i).2 (.inl rfl)) (by rw [hdst, hd, h])
      have : (a.put (some d) v).tmps.getD t undef = a.tmps.getD t undef := by
       simp [Act.put, Array.getD_eq_getD_getElem?, Array.getElem?_setIfInBounds_ne htd]
      rw [this]; exact hold
 refine key ops.size _ a0 w0.drew (by simp) (by simp [List.length_filter_le]) ?_ (.inl ⟨γ0, ?_, (show (fun j => (Array.replicate ops.size false).getD j false = true) = (fun _ => False) from funext fun j => propext ⟨fun h => by simp [Array.getD] at h, False.elim⟩) ▸ h0, ⟨rfl, rfl, ?_, fun _ _ => rfl⟩, fun _ _ => rfl⟩)
 ·intro i hi
  exfalso
  simp [Array.getD] at hi
 ·simp [Array.getD]
 ·intro j t hj
  exfalso
  simp [Array.getD] at hj
end
end Go
namespace Go.Proofs.YtcjdideliifkhaaGreatDoor
open Go.RowKit Go.Maps Go.Proofs.YtcjdideliifkhaaGreatDoorW.PrintWords Go.Proofs.YtcjdideliifkhaaGreatDoorW.PrintLast Go.Proofs.YtcjdideliifkhaaGreatDoorW.PrintMore PFnCronTextAfterAnywhere
open Mrg (Sts upd mergeL leastL)
theorem wp_makeA {op : Oper} {a : Act} {w : World} {K : Act → World → Prop} {Q : Exit → Act → World → Prop} (x y : Operand) (ho : op.op = .makeSlice 56 x y) (n : Nat) (hn : n ≤ 5) (hx : a.eval x = .int .i64 (n : Int)) (hy : a.eval y = .int .i64 (n : Int))
  (h : ∀ g, w.heap.size ≤ g → ∀ w1, ABlk w1 g n 0 (fun _ => 0) → Below w.heap.size w w1 → K (a.put op.dst (.slice (some ⟨g, 0, none⟩) n n)) w1) : op.wp Tryz.prog a w K Q := by
 obtain ⟨w1, hrun, hown, hgr⟩ := run_make_full (P := Tryz.prog) w w.heap.size 56 23 info23 (.agg #[.int .i64 0, .int .i64 0]) 2 (by kernel_rfl) (by kernel_rfl) (by kernel_rfl) (by kernel_rfl) .i64 .i64 n (by rw [show info23.bytes = 16 by kernel_rfl]; omega) (by unfold maxLen; omega) (Nat.le_refl _)
 unfold Oper.wp
 simp [execOp, ho, hx, hy, hrun, Result.andThen]
 have hb : Below w.heap.size w w1 := (Below.refl _ _).grown hgr (Nat.le_refl _) (fun k hk => by cases hk)
 obtain ⟨h1, h2 | ⟨g, cap, cur, e, hg, hc, hn', hcap, hsz, ht⟩⟩ := hown
 ·cases h2.1
 ·have e1 : g = w.heap.size ∧ cap = n := by injection e with e1 e2 e3; injection e1 with e1; injection e1 with e1 _ _; exact ⟨e1.symm, e3.symm⟩
  obtain ⟨rfl, rfl⟩ := e1
  exact h _ (Nat.le_refl _) _ ⟨cur, hc, hsz, fun i hi => by omega⟩ hb
theorem wp_makeZ {op : Oper} {a : Act} {w : World} {K : Act → World → Prop} {Q : Exit → Act → World → Prop} (x y : Operand) (ho : op.op = .makeSlice 25 x y) (n : Nat) (hn : n ≤ 5) (hx : a.eval x = .int .i64 (n : Int)) (hy : a.eval y = .int .i64 (n : Int))
  (h : ∀ g, w.heap.size ≤ g → ∀ w1, ZBlk w1 g n 0 (fun _ => false) → Below w.heap.size w w1 → K (a.put op.dst (.slice (some ⟨g, 0, none⟩) n n)) w1) : op.wp Tryz.prog a w K Q := by
 obtain ⟨w1, hrun, hown, hgr⟩ := run_make_full (P := Tryz.prog) w w.heap.size 25 4 info4 (.bool false) 1 (by kernel_rfl) (by kernel_rfl) (by kernel_rfl) (by kernel_rfl) .i64 .i64 n (by rw [show info4.bytes = 1 by kernel_rfl]; omega) (by unfold maxLen; omega) (Nat.le_refl _)
 unfold Oper.wp
 simp [execOp, ho, hx, hy, hrun, Result.andThen]
 have hb : Below w.heap.size w w1 := (Below.refl _ _).grown hgr (Nat.le_refl _) (fun k hk => by cases hk)
 obtain ⟨h1, h2 | ⟨g, cap, cur, e, hg, hc, hn', hcap, hsz, ht⟩⟩ := hown
 ·cases h2.1
 ·have e1 : g = w.heap.size ∧ cap = n := by injection e with e1 e2 e3; injection e1 with e1; injection e1 with e1 _ _; exact ⟨e1.symm, e3.symm⟩
  obtain ⟨rfl, rfl⟩ := e1
  exact h _ (Nat.le_refl _) _ ⟨cur, hc, by omega, fun i hi => by omega⟩ hb
def MnBlk (w : World) (g : Nat) (ms : List CMean) : Prop := ∃ cur : Array Value, w.heap[g]? = some (.cells cur 40 (0, 0)) ∧ ∀ i (h : i < ms.length) j v, ms[i].cells[j]? = some v → cur[i * 387 + j]? = some v
theorem MnBlk.rows {w : World} {g : Nat} {ms : List CMean} (h : MnBlk w g ms) : MnRow w g ms := fun i hi j v hv => by
 obtain ⟨cur, h1, h2⟩ := h; rw [blk_cell h1]; exact h2 i hi j v hv
theorem MnS.blk {w0 w : World} {l : List ByteArray} {ms : List CMean} {v : Value} (h : MnS w0 w l ms v) (hne : ms ≠ []) : ∃ g c, v = .slice (some ⟨g, 0, none⟩) ms.length c ∧ w0.heap.size ≤ g ∧ MnBlk w g ms := by
 obtain ⟨g, c, cur, h1, h0, h2, h3⟩ := h.row.block (fun e => hne (List.map_eq_nil_iff.1 e))
 refine ⟨g, c, by rw [h1, List.length_map], h0, cur, h2, fun i hi j v hv => ?_⟩
 have hj : j < 387 := by have := (List.getElem?_eq_some_iff.1 hv).1; rw [CMean.cells_len] at this; exact this
 rw [h3 i j (by simpa using hi) hj, List.getElem_map]; exact hv
structure LwU (w0 w : World) (s ns : Int) (gM gA gZ n kA kZ : Nat) (ms : List CMean) (x y : Sts) (css : List (List Value)) (vs : Value) : Prop where
 inst : w.heap[w0.heap.size]? = some (.cells #[.int .i64 s, .int .i64 ns] 23 (0, 0))
 la : w0.heap.size < gA
 lz : w0.heap.size < gZ
 a : ABlk w gA n kA (secM x)
 z : ZBlk w gZ n kZ (fun i => !someM y i)
 m : MnBlk w gM ms
 row : RowN w0 w 59 8 vs css
theorem LwU.goes {w0 w w' : World} {s ns : Int} {gM gA gZ n kA kZ : Nat} {ms : List CMean} {x y : Sts} {css : List (List Value)} {vs : Value} (h : LwU w0 w s ns gM gA gZ n kA kZ ms x y css vs) (hb : Below w.heap.size w w') : LwU w0 w' s ns gM gA gZ n kA kZ ms x y css vs :=
 ⟨blk_below h.inst hb, h.la, h.lz, h.a.goes hb, h.z.goes hb, by obtain ⟨cur, h1, h2⟩ := h.m; exact ⟨cur, blk_below h1 hb, h2⟩, h.row.goes hb⟩
theorem LwU.ne {w0 w : World} {s ns : Int} {gM gA gZ n kA kZ : Nat} {ms : List CMean} {x y : Sts} {css : List (List Value)} {vs : Value} (h : LwU w0 w s ns gM gA gZ n kA kZ ms x y css vs) : gA ≠ gZ ∧ gM ≠ gA ∧ gM ≠ gZ := by
 obtain ⟨ca, a1, _⟩ := h.a
 obtain ⟨cz, z1, _⟩ := h.z
 obtain ⟨cm, m1, _⟩ := h.m
 refine ⟨fun e => ?_, fun e => ?_, fun e => ?_⟩
 ·subst e; rw [a1] at z1; cases z1
 ·subst e; rw [m1] at a1; cases a1
 ·subst e; rw [m1] at z1; cases z1
theorem notSome_upd (x : Sts) (i : Nat) (v : Option Int) : (fun j => if j = i then !v.isSome else !someM x j) = fun j => !someM (upd x i v) j := by
 funext j; unfold someM upd; split <;> rfl
theorem LwU.putA {w0 w : World} {s ns : Int} {gM gA gZ n kA kA' kZ : Nat} {ms : List CMean} {x y : Sts} {css : List (List Value)} {vs : Value} (h : LwU w0 w s ns gM gA gZ n kA kZ ms x y css vs) (i : Nat) (hi : i < n) (hk : ∀ j, j < kA' → j < kA ∨ j = i) (r : Option Int) :
  LwU w0 ((w.setCell ⟨gA, i * 2, none⟩ (.int .i64 (r.getD 0))).setCell ⟨gA, i * 2 + 1, none⟩ (.int .i64 0)) s ns gM gA gZ n kA' kZ ms (upd x i r) y css vs := by
 obtain ⟨n1, n2, n3⟩ := h.ne
 obtain ⟨ca, a1, a2⟩ := h.a
 obtain ⟨cm, m1, m2⟩ := h.m
 have hla := h.la
 have a1' := blk_set a1 (i * 2) (.int .i64 (r.getD 0))
 have ha := h.a.put i hi hk (r.getD 0)
 rw [secM_upd] at ha
 exact ⟨blk_far (blk_far h.inst (by show w0.heap.size ≠ gA; omega) _) (by show w0.heap.size ≠ gA; omega) _, h.la, h.lz, ha, (h.z.far (p := ⟨gA, i * 2, none⟩) (Ne.symm n1) _).far (p := ⟨gA, i * 2 + 1, none⟩) (Ne.symm n1) _, ⟨cm, blk_far (blk_far m1 (p := ⟨gA, i * 2, none⟩) n2 _) (p := ⟨gA, i * 2 + 1, none⟩) n2 _, m2⟩,
  (h.row.set (p := ⟨gA, i * 2, none⟩) a1 (by decide) (Nat.le_of_lt h.la) _).set (p := ⟨gA, i * 2 + 1, none⟩) a1' (by decide) (Nat.le_of_lt h.la) _⟩
theorem LwU.putZ {w0 w : World} {s ns : Int} {gM gA gZ n kA kZ kZ' : Nat} {ms : List CMean} {x y : Sts} {css : List (List Value)} {vs : Value} (h : LwU w0 w s ns gM gA gZ n kA kZ ms x y css vs) (i : Nat) (hi : i < n) (hk : ∀ j, j < kZ' → j < kZ ∨ j = i) (r : Option Int) :
  LwU w0 (w.setCell ⟨gZ, i, none⟩ (.bool (!r.isSome))) s ns gM gA gZ n kA kZ' ms x (upd y i r) css vs := by
 obtain ⟨n1, n2, n3⟩ := h.ne
 obtain ⟨cz, z1, z2⟩ := h.z
 obtain ⟨cm, m1, m2⟩ := h.m
 have hlz := h.lz
 have hz := h.z.put i hi hk (!r.isSome)
 rw [notSome_upd] at hz
 exact ⟨blk_far h.inst (by show w0.heap.size ≠ gZ; omega) _, h.la, h.lz, h.a.far (p := ⟨gZ, i, none⟩) n1 _, hz, ⟨cm, blk_far m1 (p := ⟨gZ, i, none⟩) n3 _, m2⟩, h.row.set (p := ⟨gZ, i, none⟩) z1 (by decide) (Nat.le_of_lt h.lz) _⟩
theorem LwU.app {w0 w w' : World} {s ns : Int} {gM gA gZ n kA kZ : Nat} {ms : List CMean} {x y : Sts} {css : List (List Value)} {vs v' : Value} {cs : List Value} (h : LwU w0 w s ns gM gA gZ n kA kZ ms x y css vs) (hr : RowN w0 w' 59 8 v' (css ++ [cs])) (hg : w.grownBy w' vs.ownBlock) : LwU w0 w' s ns gM gA gZ n kA kZ ms x y (css ++ [cs]) v' := by
 obtain ⟨ca, a1, a2⟩ := h.a
 obtain ⟨cz, z1, z2⟩ := h.z
 obtain ⟨cm, m1, m2⟩ := h.m
 exact ⟨h.row.apart hg h.inst (by decide), h.la, h.lz, ⟨ca, h.row.apart hg a1 (by decide), a2⟩, ⟨cz, h.row.apart hg z1 (by decide), z2⟩, ⟨cm, h.row.apart hg m1 (by decide), m2⟩, hr⟩
def BoxV (cs : Array Value) (s ns : Int) (r : Option Int) (γ : Option Nat) (j : Nat) (v : Value) (w : World) : Prop :=
 match j with
 | 0 => v = .agg cs
 | 1 => v = .agg #[.int .i64 s, .int .i64 ns]
 | 2 => v = zUTC
 | 3 => v = .tuple #[.agg #[.int .i64 (r.getD 0), .int .i64 0], .bool r.isSome]
 | 4 => v = .tuple #[.agg #[.int .i64 (r.getD 0), .int .i64 0], .bool r.isSome]
 | 5 => v = .agg #[.int .i64 (r.getD 0), .int .i64 0]
 | 6 => v = .bool r.isSome
 | 7 => ∃ b, γ = some b ∧ v = .pointer (some ⟨b, 0, none⟩)
 | _ => True
structure BoxS (W5 : World) (r : Option Int) (γ : Option Nat) (L : Nat → Prop) (w : World) : Prop where
 below : Below W5.heap.size W5 w
 ge : ∀ b, γ = some b → W5.heap.size ≤ b
 empty : ∀ b, γ = some b → ¬ L 8 → w.heap[b]? = some (.cells #[.int .i64 0, .int .i64 0] 23 (0, 0))
 full : ∀ b, γ = some b → L 8 → w.heap[b]? = some (.cells #[.int .i64 (r.getD 0), .int .i64 0] 23 (0, 0))
 l7 : L 7 → ∃ b, γ = some b
 l8 : L 8 → L 7
theorem BoxS.other {W5 : World} {r : Option Int} {γ : Option Nat} {L : Nat → Prop} {w w' : World} (h : BoxS W5 r γ L w) {n : Nat} (h7 : 7 ≠ n) (h8 : 8 ≠ n) (hb : Below w.heap.size w w') : BoxS W5 r γ (fun j => j = n ∨ L j) w' :=
 ⟨below_step h.below hb, h.ge, fun b e hn => blk_below (h.empty b e fun h => hn (.inr h)) hb, fun b e hl => blk_below (h.full b e (hl.resolve_left h8)) hb, fun hl => h.l7 (hl.resolve_left h7), fun hl => .inr (h.l8 (hl.resolve_left h8))⟩
theorem BoxS.made {W5 : World} {r : Option Int} {γ : Option Nat} {L : Nat → Prop} {w : World} (h : BoxS W5 r γ L w) (hn8 : ¬ L 8) : BoxS W5 r (some w.heap.size) (fun j => j = 7 ∨ L j) (w.alloc (.cells #[.int .i64 0, .int .i64 0] 23)) :=
 ⟨below_alloc h.below _, fun b e => by cases e; exact h.below.size, fun b e _ => by cases e; exact blk_new w _, fun b e hl => absurd (hl.resolve_left (by decide)) hn8, fun _ => ⟨_, rfl⟩, fun hl => .inl rfl⟩
theorem BoxS.put {W5 : World} {r : Option Int} {b : Nat} {L : Nat → Prop} {w : World} (h : BoxS W5 r (some b) L w) (h7 : L 7) (hn8 : ¬ L 8) : BoxS W5 r (some b) (fun j => j = 8 ∨ L j) ((w.setCell ⟨b, 0, none⟩ (.int .i64 (r.getD 0))).setCell ⟨b, 1, none⟩ (.int .i64 0)) := by
 have hbk := h.empty b rfl hn8
 have q0 := blk_put hbk 0 (.int .i64 (r.getD 0)) (cs' := #[.int .i64 (r.getD 0), .int .i64 0]) rfl
 have q1 := blk_put q0 1 (.int .i64 0) (cs' := #[.int .i64 (r.getD 0), .int .i64 0]) rfl
 exact ⟨below_set (below_set h.below (h.ge b rfl)) (h.ge b rfl), h.ge, fun b' e hn => absurd (.inl rfl) hn, fun b' e _ => by cases e; exact q1, fun _ => ⟨b, rfl⟩, fun _ => .inr h7⟩
theorem BoxV.more {cs : Array Value} {s ns : Int} {r : Option Int} {γ : Option Nat} {b : Nat} {j : Nat} {v : Value} {w w' : World} (hj : j ≠ 7) (h : BoxV cs s ns r γ j v w) : BoxV cs s ns r (some b) j v w' := by
 match j, hj, h with
 | 0, _, h => exact h
 | 1, _, h => exact h
 | 2, _, h => exact h
 | 3, _, h => exact h
 | 4, _, h => exact h
 | 5, _, h => exact h
 | 6, _, h => exact h
 | 7, hj, _ => exact absurd rfl hj
 | _ + 8, _, h => exact h
theorem BoxV.any {cs : Array Value} {s ns : Int} {r : Option Int} {γ : Option Nat} {j : Nat} {v : Value} {w w' : World} (h : BoxV cs s ns r γ j v w) : BoxV cs s ns r γ j v w' := by
 match j, h with
 | 0, h => exact h
 | 1, h => exact h
 | 2, h => exact h
 | 3, h => exact h
 | 4, h => exact h
 | 5, h => exact h
 | 6, h => exact h
 | 7, h => exact h
 | _ + 8, h => exact h
structure RgS (w0 W8 : World) (s ns : Int) (gM gA gZ n k b14 b : Nat) (ms : List CMean) (x : Sts) (css : List (List Value)) (cs : List Value) (vs : Value) (r : Option Int) (γ : Option Value) (L : Nat → Prop) (w : World) : Prop where
 since : W8.heap.size ≤ w.heap.size
 n7 : γ = none → ¬ L 7
 s7 : ∀ v, γ = some v → L 7
 u00 : ¬ L 13 → γ = none → LwU w0 w s ns gM gA gZ n k k ms x x css vs
 u10 : L 13 → γ = none → LwU w0 w s ns gM gA gZ n (k + 1) k ms (upd x k r) x css vs
 u01 : ¬ L 13 → ∀ v', γ = some v' → LwU w0 w s ns gM gA gZ n k k ms x x (css ++ [cs]) v'
 u11 : L 13 → ∀ v', γ = some v' → LwU w0 w s ns gM gA gZ n (k + 1) k ms (upd x k r) x (css ++ [cs]) v'
 h14 : γ = none → w.heap[b14]? = some (.cells cs.toArray 59 (0, 0))
 hb : ¬ L 13 → w.heap[b]? = some (.cells #[.int .i64 (r.getD 0), .int .i64 0] 23 (0, 0))
theorem RgS.other {w0 W8 : World} {s ns : Int} {gM gA gZ n k b14 b : Nat} {ms : List CMean} {x : Sts} {css : List (List Value)} {cs : List Value} {vs : Value} {r : Option Int} {γ : Option Value} {L : Nat → Prop} {w w' : World} (h : RgS w0 W8 s ns gM gA gZ n k b14 b ms x css cs vs r γ L w) {j : Nat} (h7 : 7 ≠ j) (h13 : 13 ≠ j) (hb : Below w.heap.size w w') : RgS w0 W8 s ns gM gA gZ n k b14 b ms x css cs vs r γ (fun i => i = j ∨ L i) w' :=
 ⟨Nat.le_trans h.since hb.size, fun e hl => h.n7 e (hl.resolve_left h7), fun v e => .inr (h.s7 v e), fun hn e => (h.u00 (fun hl => hn (.inr hl)) e).goes hb, fun hl e => (h.u10 (hl.resolve_left h13) e).goes hb, fun hn v e => (h.u01 (fun hl => hn (.inr hl)) v e).goes hb, fun hl v e => (h.u11 (hl.resolve_left h13) v e).goes hb,
  fun e => blk_below (h.h14 e) hb, fun hn => blk_below (h.hb fun hl => hn (.inr hl)) hb⟩
theorem RgS.app {w0 W8 : World} {s ns : Int} {gM gA gZ n k b14 b : Nat} {ms : List CMean} {x : Sts} {css : List (List Value)} {cs : List Value} {vs : Value} {r : Option Int} {L : Nat → Prop} {w w' : World} (h : RgS w0 W8 s ns gM gA gZ n k b14 b ms x css cs vs r none L w) {v' : Value} (hr : RowN w0 w' 59 8 v' (css ++ [cs])) (hg : w.grownBy w' vs.ownBlock) : RgS w0 W8 s ns gM gA gZ n k b14 b ms x css cs vs r (some v') (fun i => i = 7 ∨ L i) w' := by
 refine ⟨Nat.le_trans h.since hg.size, fun e => (by cases e), fun v e => .inl rfl, fun _ e => (by cases e), fun _ e => (by cases e), fun hn v e => ?_, fun hl v e => ?_, fun e => (by cases e), fun hn => ?_⟩
 ·cases e; exact (h.u00 (fun hl => hn (.inr hl)) rfl).app hr hg
 ·cases e; exact (h.u10 (hl.resolve_left (by decide)) rfl).app hr hg
 ·have h1 := h.hb fun hl => hn (.inr hl)
  exact (h.u00 (fun hl => hn (.inr hl)) rfl).row.apart hg h1 (by decide)
theorem RgS.putA {w0 W8 : World} {s ns : Int} {gM gA gZ n k b14 b : Nat} {ms : List CMean} {x : Sts} {css : List (List Value)} {cs : List Value} {vs : Value} {r : Option Int} {γ : Option Value} {L : Nat → Prop} {w : World} (h : RgS w0 W8 s ns gM gA gZ n k b14 b ms x css cs vs r γ L w) (hk : k < n) (hn13 : ¬ L 13) :
  RgS w0 W8 s ns gM gA gZ n k b14 b ms x css cs vs r γ (fun i => i = 13 ∨ L i) ((w.setCell ⟨gA, k * 2, none⟩ (.int .i64 (r.getD 0))).setCell ⟨gA, k * 2 + 1, none⟩ (.int .i64 0)) := by
 refine ⟨by simpa [World.setCell] using h.since, fun e hl => h.n7 e (hl.resolve_left (by decide)), fun v e => .inr (h.s7 v e), fun hn => absurd (.inl rfl) hn, fun _ e => (h.u00 hn13 e).putA k hk (fun j hj => by omega) r, fun hn => absurd (.inl rfl) hn, fun _ v e => (h.u01 hn13 v e).putA k hk (fun j hj => by omega) r, fun e => ?_, fun hn => absurd (.inl rfl) hn⟩
 obtain ⟨ca, a1, _⟩ := (h.u00 hn13 e).a
 have h1 := h.h14 e
 have hne : b14 ≠ gA := fun e => by subst e; rw [a1] at h1; cases h1
 exact blk_far (blk_far h1 (p := ⟨gA, k * 2, none⟩) hne _) (p := ⟨gA, k * 2 + 1, none⟩) hne _
def RgV (gA gZ n k : Nat) (W8 : World) (cs : List Value) (vs : Value) (r : Option Int) (γ : Option Value) (j : Nat) (v : Value) (w : World) : Prop :=
 match j with
 | 0 => v = .slice (some ⟨gA, 0, none⟩) n n
 | 1 => v = .int .i64 (k : Int)
 | 2 => v = .slice (some ⟨gZ, 0, none⟩) n n
 | 3 => v = .int .i64 (k : Int)
 | 4 => v = vs
 | 5 => v = .agg cs.toArray
 | 6 => γ = none → ∃ g, v = .slice (some ⟨g, 0, none⟩) 1 1 ∧ w.heap[g]? = some (.cells cs.toArray 59 (0, 0))
 | 7 => γ = some v
 | 8 => v = .agg #[.int .i64 (r.getD 0), .int .i64 0]
 | 9 => v = .bool r.isSome
 | 10 => v = .bool (!r.isSome)
 | 11 => γ = some v
 | 12 => v = .pointer (some ⟨gA, k * 2, none⟩)
 | 14 => v = .pointer (some ⟨gZ, k, none⟩)
 | _ => True
theorem RgV.keep {gA gZ n k : Nat} {W8 : World} {cs : List Value} {vs : Value} {r : Option Int} {γ : Option Value} {j : Nat} {v : Value} {w w' : World} (hb : ∀ g : Nat, w.heap[g]? = some (Obj.cells cs.toArray 59 (0, 0)) → w'.heap[g]? = some (Obj.cells cs.toArray 59 (0, 0))) (h : RgV gA gZ n k W8 cs vs r γ j v w) : RgV gA gZ n k W8 cs vs r γ j v w' := by
 match j, h with
 | 0, h => exact h
 | 1, h => exact h
 | 2, h => exact h
 | 3, h => exact h
 | 4, h => exact h
 | 5, h => exact h
 | 6, h => exact fun e => (h e).imp fun g ⟨h1, h2⟩ => ⟨h1, hb g h2⟩
 | 7, h => exact h
 | 8, h => exact h
 | 9, h => exact h
 | 10, h => exact h
 | 11, h => exact h
 | 12, h => exact h
 | 13, h => exact h
 | 14, h => exact h
 | _ + 15, h => exact h
theorem RgV.app {gA gZ n k : Nat} {W8 : World} {cs : List Value} {vs : Value} {r : Option Int} {j : Nat} {v v' : Value} {w w' : World} (h7 : j ≠ 7) (h11 : j ≠ 11) (h : RgV gA gZ n k W8 cs vs r none j v w) : RgV gA gZ n k W8 cs vs r (some v') j v w' := by
 match j, h7, h11, h with
 | 0, _, _, h => exact h
 | 1, _, _, h => exact h
 | 2, _, _, h => exact h
 | 3, _, _, h => exact h
 | 4, _, _, h => exact h
 | 5, _, _, h => exact h
 | 6, _, _, _ => exact fun e => by cases e
 | 7, h, _, _ => exact absurd rfl h
 | 8, _, _, h => exact h
 | 9, _, _, h => exact h
 | 10, _, _, h => exact h
 | 11, _, h, _ => exact absurd rfl h
 | 12, _, _, h => exact h
 | 13, _, _, h => exact h
 | 14, _, _, h => exact h
 | _ + 15, _, _, h => exact h
noncomputable def info59 : TypeInfo := (Tryz.prog.info? 59).get (by kernel_rfl)
theorem elem59 : ElemN 55 59 info59 (.agg #[.bool false, .int .i64 0, .int .u64 0, .int .u64 0, .int .u64 0, .int .u64 0, .int .u64 0, .int .u64 0]) 8 := ⟨by kernel_rfl, by kernel_rfl, by kernel_rfl, by kernel_rfl, by decide, by rw [show info59.bytes = 64 by kernel_rfl]; decide, by kernel_rfl⟩
theorem wp_build1 {o : Oper} {a : Act} {K : Act → World → Prop} {Q : Exit → Act → World → Prop} {w : World} {T e : TypeId} {i : TypeInfo} {z : Value} {k : Nat} (hE : ElemN T e i z k) (hk : k ≤ 1000)
  (x : Operand) (ho : o.op = .buildSlice T 1 #[(0, x)]) (u : List Value) (hx : a.eval x = .agg u.toArray) (hu : u.length = k)
  (h : K (a.put o.dst (.slice (some ⟨w.heap.size, 0, none⟩) 1 1)) (w.alloc (.cells u.toArray e))) : o.wp Tryz.prog a w K Q := by
 have hp := hE.pos
 have hs := hE.size
 refine wp_buildSlice T e 1 _ ho u.toArray i z hE.sl hE.inf hE.zero (by rw [hs]; omega) (by rw [hs]; omega) ?_ h
 rw [hs, Array.toList_map]
 show Instr.fill _ _ [(0, a.eval x)] = _
 rw [hx]
 have := Great.fill_whole hp [.agg u.toArray] ((Array.range (1 * k)).map (z.cells[· % z.cells.size]!)) (fun v hv => by rw [List.mem_singleton] at hv; subst hv; simpa [Value.cells] using hu) (by simp)
 simpa [Value.cells] using this
theorem blk59_far {w : World} {g gA : Nat} {cs : Array Value} {ca : Array Value} (h : w.heap[g]? = some (.cells cs 59 (0, 0))) (ha : w.heap[gA]? = some (.cells ca 23 (0, 0))) (i j : Nat) (u v : Value) : ((w.setCell ⟨gA, i, none⟩ u).setCell ⟨gA, j, none⟩ v).heap[g]? = some (.cells cs 59 (0, 0)) := by
 have hne : g ≠ gA := fun e => by subst e; rw [h] at ha; cases ha
 exact blk_far (blk_far h (p := ⟨gA, i, none⟩) hne _) (p := ⟨gA, j, none⟩) hne _
end Go.Proofs.YtcjdideliifkhaaGreatDoor
namespace Go.Proofs.YtcjdideliifkhaaGreatDoor.Mrg
theorem mergeL_len (F : Nat → Int → Option Int) (n : Nat) : ∀ (m : Nat) (x : Sts), (mergeL F n m x).length ≤ m := by
 intro m
 induction m with
 | zero => intro x; exact Nat.le_refl _
 | succ m ih =>
  intro x
  unfold mergeL
  cases leastL x n with
  | none => exact Nat.zero_le _
  | some i => simp only [List.length_cons]; exact Nat.succ_le_succ (ih _)
structure Run (F : Nat → Int → Option Int) (n M : Nat) (E : List (Nat × Int)) (q : Nat) (T : Int) (X y : Sts) : Prop where
 le : q ≤ E.length
 qM : q ≤ M
 eq : E.drop q = mergeL F n (M - q) X
 same : Same F n (E.take q) T X y
 last : ∀ h : q - 1 < E.length, 0 < q → (E[q - 1]).2 = T
theorem Run.start {F : Nat → Int → Option Int} {n M : Nat} {T : Int} {X y : Sts} (hxy : ∀ i, i < n → X i = y i) (hl : ∀ i, i < n → ∀ v, X i = some v → T ≤ v) : Run F n M (mergeL F n M X) 0 T X y := by
 refine ⟨Nat.zero_le _, Nat.zero_le _, rfl, ⟨fun i hi => .inl (hxy i hi), ?_, hl, fun i hi v hv => hl i hi v (by rw [hxy i hi]; exact hv)⟩, fun _ h => absurd h (Nat.lt_irrefl _)⟩
 have : ∀ k, k ≤ n → Mrg.cnt X T k = Mrg.cnt y T k := by
  intro k
  induction k with
  | zero => intro _; rfl
  | succ k ih => intro hk; unfold Mrg.cnt; rw [ih (by omega), hxy k (by omega)]
 exact this n (Nat.le_refl _)
theorem Run.next {F : Nat → Int → Option Int} {n M q : Nat} {E : List (Nat × Int)} {T : Int} {X y : Sts} (hF : Later F) (h : Run F n M E q T X y) (hq : q < E.length) :
  ∃ i T', E[q] = (i, T') ∧ T ≤ T' ∧ (∃ j, j < n ∧ y j = some T') ∧ (∀ j, j < n → ∀ v, y j = some v → T' ≤ v) ∧
   ∀ j, j < n → y j = some T' → ((∃ p, ∃ hp : p < E.length, E[p] = (j, T')) ∨ (E.length = M ∧ ∀ hp : E.length - 1 < E.length, (E[E.length - 1]).2 = T')) ∧ ∃ X', Run F n M E (q + 1) T' X' (upd y j (F j T')) := by
 have he := h.eq
 rw [List.drop_eq_getElem_cons hq] at he
 obtain ⟨d, hd⟩ : ∃ d, M - q = d + 1 := by
  cases hm : M - q with
  | zero => rw [hm] at he; cases he
  | succ d => exact ⟨d, rfl⟩
 have hall : mergeL F n (M - q) X = E.drop q := h.eq.symm
 rw [hd] at he
 unfold mergeL at he
 cases hl : leastL X n with
 | none => rw [hl] at he; cases he
 | some i =>
  obtain ⟨hi, T', hX, hmin⟩ := leastL_some hl
  rw [hl] at he
  simp only [hX, Option.getD_some] at he
  injection he with he1 he2
  obtain ⟨hTT, hex, hyl, hT⟩ := h.same.min hi hX hmin
  refine ⟨i, T', he1, hTT, hex, hyl, fun j hj hyj => ⟨?_, ?_⟩⟩
  ·have hcase : X j = some T' ∨ (j, T') ∈ E.take q := by
    rcases hT with rfl | hs
    ·rcases h.same.each j hj with g | ⟨g1, g2⟩ | ⟨g1, g2, g3⟩
     ·left; rw [g]; exact hyj
     ·rw [hyj] at g2; have := hF j T' T' g2.symm; omega
     ·exact .inr g3
    ·left; rw [hs j hj]; exact hyj
   rcases hcase with g | g
   ·rcases merge_met (n := n) hF hj (M - q) X g hmin with g | ⟨g1, g2⟩
    ·rw [hall] at g
     obtain ⟨p, hp, hpe⟩ := List.getElem_of_mem (List.mem_of_mem_drop g)
     exact .inl ⟨p, hp, hpe⟩
    ·right
     rw [hall, List.length_drop] at g1
     refine ⟨by have := h.qM; omega, fun hp => ?_⟩
     refine g2 _ ?_
     rw [hall]
     have : (E.drop q)[E.length - 1 - q]'(by rw [List.length_drop]; omega) = E[E.length - 1] := by
      rw [List.getElem_drop]; congr 1; omega
     rw [← this]; exact List.getElem_mem _
   ·obtain ⟨p, hp, hpe⟩ := List.getElem_of_mem (List.mem_of_mem_take g)
    exact .inl ⟨p, hp, hpe⟩
  ·refine ⟨upd X i (F i T'), hq, by omega, ?_, ?_, fun h1 h2 => ?_⟩
   ·rw [he2, show M - (q + 1) = d by omega]
   ·have := h.same.step hF hi hX hmin hj hyj
    rw [← he1] at this
    rw [List.take_succ_eq_append_getElem hq]
    exact this
   ·show (E[q]).2 = T'
    rw [he1]
theorem Run.done {F : Nat → Int → Option Int} {n M q : Nat} {E : List (Nat × Int)} {T : Int} {X y : Sts} (h : Run F n M E q T X y) (hq : q = E.length) (hM : E.length < M) : ∀ i, i < n → y i = none := by
 have he := h.eq
 rw [hq, List.drop_length] at he
 obtain ⟨d, hd⟩ : ∃ d, M - E.length = d + 1 := ⟨M - E.length - 1, by omega⟩
 rw [hd] at he
 unfold mergeL at he
 cases hl : leastL X n with
 | some i => rw [hl] at he; cases he
 | none => exact h.same.none (leastL_none hl)
end Go.Proofs.YtcjdideliifkhaaGreatDoor.Mrg
