import Derived.Test.YtcjdideliifkhaaGreatDoorB10
set_option maxRecDepth 100000
set_option maxHeartbeats 16000000
namespace Go.Proofs.YtcjdideliifkhaaGreatDoor
open Go.RowKit
set_option linter.unusedVariables false
set_option linter.unusedSimpArgs false
structure Fr (b u o t3 t4 : Nat) (last : Int) (added : Bool) (a : Act) : Prop where
 sz : a.tmps.size = 172
 df : a.defers = []
 g0 : a.tmps.getD 0 undef = .pointer (some ⟨b, 0, none⟩)
 g3 : a.tmps.getD 3 undef = .pointer (some ⟨t3, 0, none⟩)
 g4 : a.tmps.getD 4 undef = .pointer (some ⟨t4, 0, none⟩)
 g5 : a.tmps.getD 5 undef = .pointer (some ⟨o, 0, none⟩)
 g6 : a.tmps.getD 6 undef = .pointer (some ⟨u, 0, none⟩)
 g7 : a.tmps.getD 7 undef = .bool added
 g8 : a.tmps.getD 8 undef = .int .i64 last
theorem Fr.keep {b u o t3 t4 : Nat} {last : Int} {added : Bool} {a a' : Act} (h : Fr b u o t3 t4 last added a) (hs : a'.tmps.size = a.tmps.size) (hd : a'.defers = a.defers)
  (ho : ∀ t, t < 9 → a'.tmps.getD t undef = a.tmps.getD t undef) : Fr b u o t3 t4 last added a' :=
 ⟨hs.trans h.sz, hd.trans h.df, (ho 0 (by decide)).trans h.g0, (ho 3 (by decide)).trans h.g3, (ho 4 (by decide)).trans h.g4, (ho 5 (by decide)).trans h.g5, (ho 6 (by decide)).trans h.g6, (ho 7 (by decide)).trans h.g7, (ho 8 (by decide)).trans h.g8⟩
section
variable {P : Program} {w0 : World} {b u o t3 t4 : Nat} {lv : Value} {se mi ho dom mo dow : Int} {loc : Option Addr} {last : Int}
def Inv (w0 : World) (b u o t3 t4 : Nat) (lv : Value) (se mi ho dom mo dow : Int) (loc : Option Addr) (last : Int) (added : Bool) (x : Int) (a : Act) (w : World) : Prop :=
 Fr b u o t3 t4 last added a ∧ St w0 b u o t3 t4 lv se mi ho dom mo dow loc w (x + 62135596800)
def LoopQ (w0 : World) (b u o t3 t4 : Nat) (lv : Value) (se mi ho dom mo dow : Int) (loc : Option Addr) (first last x0 : Int) (E : Int → Prop) : Exit → Act → World → Prop
 | .normal, a, w => ∃ (added : Bool) (x : Int), Inv w0 b u o t3 t4 lv se mi ho dom mo dow loc last added x a w ∧ Pl (fOf se mi ho dom mo dow) first last added x ∧ x0 ≤ x ∧ Cal.Y (x / 86400) ≤ last ∧ E x
 | .goto 0, a, w => ∃ x : Int, Inv w0 b u o t3 t4 lv se mi ho dom mo dow loc last true x a w ∧ Pl (fOf se mi ho dom mo dow) first last true x ∧ x0 < x
 | _, _, _ => False
def TailQ (w0 : World) (b u o t3 t4 : Nat) (lv : Value) (se mi ho dom mo dow : Int) (loc : Option Addr) (last : Int) (y : Int) (wrap : Bool) : Exit → Act → World → Prop
 | .normal, a, w => wrap = false ∧ Inv w0 b u o t3 t4 lv se mi ho dom mo dow loc last true y a w
 | .goto 0, a, w => wrap = true ∧ Inv w0 b u o t3 t4 lv se mi ho dom mo dow loc last true y a w
 | _, _, _ => False
theorem loop_gen {cid bid : Nat} {Rt Rn Ra Rr tail : Code} {tt tn : Tmp} {first x0 : Int} (hlast : last ≤ 27390)
  (C : Int → Prop) (E : Int → Bool) (st n : Int → Int) (wrap : Int → Bool)
  (hT : ∀ added x a w, -62135596800 ≤ x → x ≤ 900000000000 → Inv w0 b u o t3 t4 lv se mi ho dom mo dow loc last added x a w →
   Rt.wp P (Exit.then (fun a' w' => Inv w0 b u o t3 t4 lv se mi ho dom mo dow loc last added x a' w' ∧ a'.tmps.getD tt undef = .bool (!(E x))) (fun _ _ _ => False)) a w)
  (hN : ∀ added x a w, Inv w0 b u o t3 t4 lv se mi ho dom mo dow loc last added x a w →
   Rn.wp P (Exit.then (fun a' w' => Inv w0 b u o t3 t4 lv se mi ho dom mo dow loc last added x a' w' ∧ a'.tmps.getD tn undef = .bool (!added)) (fun _ _ _ => False)) a w)
  (hA : ∀ x a w, Inv w0 b u o t3 t4 lv se mi ho dom mo dow loc last false x a w →
   Ra.wp P (Exit.then (fun a' w' => Inv w0 b u o t3 t4 lv se mi ho dom mo dow loc last true x a' w') (fun _ _ _ => False)) a w)
  (hR : ∀ x a w, -62135596800 ≤ x → x ≤ 900000000000 → Inv w0 b u o t3 t4 lv se mi ho dom mo dow loc last true x a w →
   Rr.wp P (Exit.then (fun a' w' => Inv w0 b u o t3 t4 lv se mi ho dom mo dow loc last true (st x) a' w') (fun _ _ _ => False)) a w)
  (hS : ∀ x a w, -62135596800 ≤ x → x ≤ 900000000000 → E x = false → Cal.Y (x / 86400) ≤ last → Inv w0 b u o t3 t4 lv se mi ho dom mo dow loc last true (st x) a w →
   tail.wp P (TailQ w0 b u o t3 t4 lv se mi ho dom mo dow loc last (n x) (wrap (n x))) a w)
  (hst : ∀ x, Cal.Al (fOf se mi ho dom mo dow) x → E x = false → st x = x)
  (hnx : ∀ x, -62135596800 ≤ x → x ≤ 900000000000 → E x = false → x < n x)
  (hnb : ∀ x, -62135596800 ≤ x → Cal.Y (x / 86400) ≤ last → n x ≤ 900000000000)
  (hq : ∀ x, -62135596800 ≤ x → C x → E x = false → Cal.Quiet (fOf se mi ho dom mo dow) x (n x))
  (hal : ∀ x, -62135596800 ≤ x → C x → E x = false → Cal.Al (fOf se mi ho dom mo dow) (n x))
  (hC : ∀ x, -62135596800 ≤ x → C x → E x = false → wrap (n x) = false → C (n x) ∧ Cal.Y (n x / 86400) = Cal.Y (x / 86400))
  {a : Act} {w : World} (h : ∃ (added : Bool) (x : Int), Inv w0 b u o t3 t4 lv se mi ho dom mo dow loc last added x a w ∧ Pl (fOf se mi ho dom mo dow) first last added x ∧ x0 ≤ x ∧ Cal.Y (x / 86400) ≤ last ∧ C x) :
  (Code.block cid (.loop (.seq (.seq Rt (.cond (.tmp tt) .skip (.exit cid))) (.block bid (.seq (.seq Rn (.cond (.tmp tn) (.seq Ra Rr) .skip)) tail))))).wp P
   (LoopQ w0 b u o t3 t4 lv se mi ho dom mo dow loc first last x0 (fun x => C x ∧ E x = true)) a w := by
 refine wp_block ?_
 refine wp_loop (fun a w => ∃ (added : Bool) (x : Int), Inv w0 b u o t3 t4 lv se mi ho dom mo dow loc last added x a w ∧ Pl (fOf se mi ho dom mo dow) first last added x ∧ x0 ≤ x ∧ Cal.Y (x / 86400) ≤ last ∧ C x)
  (fun _ w => (962135596800 - secOf t3 w).toNat) h ?_
 rintro a w ⟨added, x, hi, hp, hx0, hy, hc⟩
 have hxa : -62135596800 ≤ x := by have := hp.lo; have := hp.from_; omega
 have hxb : x ≤ 900000000000 := hp.hi
 refine wp_seq (wp_seq (wp_mono (hT added x a w hxa hxb hi) ?_))
 rintro e a1 w1 hq1
 cases e <;> try exact False.elim hq1
 obtain ⟨hi1, ht1⟩ := hq1
 cases hE : E x with
 | true =>
  rw [hE] at ht1
  refine wp_cond_false ht1 (wp_exit ?_)
  show (if cid = cid then _ else _)
  rw [if_pos rfl]
  exact ⟨added, x, hi1, hp, hx0, hy, hc, hE⟩
 | false =>
  rw [hE] at ht1
  refine wp_cond_true ht1 (wp_skip ?_)
  show Code.wp _ _ _ _ _
  refine wp_block (wp_seq (wp_seq (wp_mono (hN added x a1 w1 hi1) ?_)))
  rintro e a2 w2 hq2
  cases e <;> try exact False.elim hq2
  obtain ⟨hi2, ht2⟩ := hq2
  have hxn := hnx x hxa hxb hE
  have hnb' := hnb x hxa hy
  have hpn : Pl (fOf se mi ho dom mo dow) first last true (n x) :=
   ⟨by have := hp.from_; omega, hp.lo, hnb', hp.quiet.trans (hq x hxa hc hE), fun _ => hal x hxa hc hE⟩
  have key : ∀ a3 w3, Inv w0 b u o t3 t4 lv se mi ho dom mo dow loc last true (st x) a3 w3 →
    tail.wp P (Exit.inBlock bid (Exit.then (fun a' w' => (∃ (added : Bool) (x : Int), Inv w0 b u o t3 t4 lv se mi ho dom mo dow loc last added x a' w' ∧ Pl (fOf se mi ho dom mo dow) first last added x ∧ x0 ≤ x ∧ Cal.Y (x / 86400) ≤ last ∧ C x) ∧
     (962135596800 - secOf t3 w').toNat < (962135596800 - secOf t3 w).toNat) (Exit.inBlock cid (LoopQ w0 b u o t3 t4 lv se mi ho dom mo dow loc first last x0 (fun x => C x ∧ E x = true))))) a3 w3 := by
   intro a3 w3 hi3
   refine wp_mono (hS x a3 w3 hxa hxb hE hy hi3) ?_
   rintro e a4 w4 hq4
   cases e with
   | normal =>
    obtain ⟨hw4, hi4⟩ := hq4
    have hcn := hC x hxa hc hE hw4
    refine ⟨⟨true, n x, hi4, hpn, by omega, by rw [hcn.2]; exact hy, hcn.1⟩, ?_⟩
    rw [secOf_eq hi4.2.t, secOf_eq hi.2.t]
    omega
   | goto l =>
    cases l with
    | zero => exact ⟨n x, hq4.2, hpn, by omega⟩
    | succ l => exact False.elim hq4
   | exit l => exact False.elim hq4
   | ret => exact False.elim hq4
   | panic c => exact False.elim hq4
   | outgrown => exact False.elim hq4
  cases added with
  | true =>
   refine wp_cond_false ht2 (wp_skip ?_)
   have hst' := hst x (hp.al rfl) hE
   exact key a2 w2 (by rw [hst']; exact hi2)
  | false =>
   refine wp_cond_true ht2 (wp_seq (wp_mono (hA x a2 w2 hi2) ?_))
   rintro e a3 w3 hq3
   cases e <;> try exact False.elim hq3
   refine wp_mono (hR x a3 w3 hxa hxb hq3) ?_
   rintro e a4 w4 hq4
   cases e <;> try exact False.elim hq4
   exact key a4 w4 hq4
end
end Go.Proofs.YtcjdideliifkhaaGreatDoor
namespace Go
open Go.RowKit
section
variable {P : Program} {ops : Array Oper} {Q : Exit → Act → World → Prop}
def Region.reads (l : List (Tmp × Value)) (o : Oper) : List (Tmp × Value) := o.op.operands.toList.filterMap fun x => match x with | .tmp t => (l.lookup t).map fun v => (t, v) | _ => none
def Region.Told (a : Act) : List (Tmp × Value) → Prop
 | [] => True
 | p :: r => a.tmps.getD p.1 undef = p.2 ∧ Region.Told a r
def Region.told1 (l : List (Tmp × Value)) : Option Tmp → Value → Prop
 | some t, v => match l.lookup t with | some x => v = x | none => True
 | none, _ => True
theorem Region.told_of {a : Act} : ∀ {l : List (Tmp × Value)}, (∀ p ∈ l, a.tmps.getD p.1 undef = p.2) → Region.Told a l
 | [], _ => trivial
 | p :: r, h => ⟨h p List.mem_cons_self, Region.told_of fun q hq => h q (List.mem_cons_of_mem _ hq)⟩
theorem Region.Told.get {a : Act} : ∀ {l : List (Tmp × Value)}, Region.Told a l → ∀ p ∈ l, a.tmps.getD p.1 undef = p.2
 | _ :: _, h, p, hp => by
  rcases List.mem_cons.1 hp with rfl | hp
  ·exact h.1
  ·exact Region.Told.get h.2 p hp
theorem lookup_mem {t : Tmp} {v : Value} : ∀ {l : List (Tmp × Value)}, l.lookup t = some v → (t, v) ∈ l
 | [], h => by cases h
 | (k, x) :: r, h => by
  rw [List.lookup_cons] at h
  by_cases c : t = k
  ·subst c; simp at h; subst h; exact List.mem_cons_self
  ·have : (t == k) = false := by simpa using c
   rw [this] at h
   exact List.mem_cons_of_mem _ (lookup_mem h)
def Region.FacSteps (P : Program) (Q : Exit → Act → World → Prop) (S : World → Prop) (l : List (Tmp × Value)) (m : Nat) : Nat → List Oper → Prop
 | _, [] => True
 | i, o :: r => (i ≠ m → ∀ a w, S w → Region.Told a (Region.reads l o) → o.wp P a w (fun a' w' => ∃ v, a' = a.put o.dst v ∧ Region.told1 l o.dst v ∧ Below w.heap.size w w') Q) ∧ Region.FacSteps P Q S l m (i + 1) r
def Region.facOne (ops : Array Oper) (kos : List Tmp) (i : Nat) (o : Oper) : Bool :=
 o.guard.isNone && o.op.operands.toList.all fun x => match x with
  | .tmp t => !kos.contains t || (List.range ops.size).all fun j => Region.dstOf ops j != some t || (Region.depsOf ops i).contains j
  | _ => true
def Region.facOk (ops : Array Oper) (m : Nat) (ks os : List Tmp) (n : Nat) : Bool :=
 Region.back ops && (match ops[m]? with | some o => o.guard.isNone && o.dst.isNone | none => true) && Region.dstsOk ops n && Region.dstsApart ops &&
 (List.range ops.size).all (fun i => match ops[i]? with | some o => Region.facOne ops (ks ++ os) i o | none => true) &&
 ks.all (fun t => (List.range ops.size).any fun j => j != m && Region.dstOf ops j == some t) && os.all (fun t => ops.toList.all fun o => o.dst != some t)
def Region.FacV (ops : Array Oper) (l : List (Tmp × Value)) (j : Nat) (v : Value) (_ : World) : Prop := Region.told1 l (Region.dstOf ops j) v
theorem Region.fac_told {a0 a : Act} {w : World} {m n : Nat} {new old : List (Tmp × Value)} {L : Nat → Prop} (hck : Region.facOk ops m (new.map (·.1)) (old.map (·.1)) n = true) (hold : Region.Told a0 old)
  (hA : Region.At ops (Region.FacV ops (new ++ old)) a0 L a w) {t : Tmp} {v : Value} (hl : (new ++ old).lookup t = some v) (hw : ∀ j, Region.dstOf ops j = some t → L j) : a.tmps.getD t undef = v := by
 unfold Region.facOk at hck
 simp only [Bool.and_eq_true] at hck
 obtain ⟨⟨-, hk⟩, ho⟩ := hck
 by_cases c : ∃ j, Region.dstOf ops j = some t
 ·obtain ⟨j, hj⟩ := c
  have h := hA.got j t (hw j hj) hj
  unfold Region.FacV Region.told1 at h
  rw [hj] at h
  simp only [hl] at h
  exact h
 ·have hno : ∀ j, Region.dstOf ops j ≠ some t := fun j hj => c ⟨j, hj⟩
  rcases List.mem_append.1 (lookup_mem hl) with h | h
  ·have h5 := List.all_eq_true.1 hk t (List.mem_map.2 ⟨_, h, rfl⟩)
   obtain ⟨j, _, h6⟩ := List.any_eq_true.1 h5
   simp only [Bool.and_eq_true, beq_iff_eq] at h6
   exact absurd h6.2 (hno j)
  ·rw [hA.old t hno]
   exact hold.get _ h
theorem Region.fac_step {a0 a : Act} {w : World} {m n : Nat} {new old : List (Tmp × Value)} {S : World → Prop} (hck : Region.facOk ops m (new.map (·.1)) (old.map (·.1)) n = true) (hold : Region.Told a0 old)
  (hstep : Region.FacSteps P Q S (new ++ old) m 0 ops.toList) {i : Nat} {o : Oper} (ho : ops[i]? = some o) (him : i ≠ m) (hS : S w) (hA : Region.At ops (Region.FacV ops (new ++ old)) a0 (· ∈ Region.depsOf ops i) a w) :
  (Region.wanted o (yielded ops a.tmps) = true → o.wp P a w (fun a' w' => ∃ v, a' = a.put o.dst v ∧ Region.FacV ops (new ++ old) i v w' ∧ Below w.heap.size w w') Q) ∧ (Region.wanted o (yielded ops a.tmps) = false → Region.FacV ops (new ++ old) i undef w) := by
 have hat : ∀ (l : List Oper) (k : Nat), Region.FacSteps P Q S (new ++ old) m k l → ∀ i o, l[i]? = some o → k + i ≠ m → ∀ a w, S w → Region.Told a (Region.reads (new ++ old) o) → o.wp P a w (fun a' w' => ∃ v, a' = a.put o.dst v ∧ Region.told1 (new ++ old) o.dst v ∧ Below w.heap.size w w') Q := by
  intro l
  induction l with
  | nil => intro k _ i o h; simp at h
  | cons x l ih =>
   intro k h i o hi
   cases i with
   | zero => simp at hi; subst hi; exact h.1
   | succ i =>
    have := ih (k + 1) h.2 i o (by simpa using hi)
    rw [show k + 1 + i = k + (i + 1) by omega] at this
    exact this
 have hi : i < ops.size := by
  by_cases c : i < ops.size; exact c
  rw [Array.getElem?_eq_none (by omega)] at ho; cases ho
 have hck' := hck
 unfold Region.facOk at hck'
 simp only [Bool.and_eq_true] at hck'
 have hl := List.all_eq_true.1 hck'.1.1.2 i (by simpa using hi)
 rw [ho] at hl
 simp only [Region.facOne, Bool.and_eq_true] at hl
 have hdst : Region.dstOf ops i = o.dst := by unfold Region.dstOf; rw [ho]; rfl
 have hg : o.guard = none := by simpa using hl.1
 have h := hat ops.toList 0 hstep i o (by simpa using ho) (by omega) a w hS (Region.told_of fun p hp => by
  unfold Region.reads at hp
  obtain ⟨x, hx, hxp⟩ := List.mem_filterMap.1 hp
  cases x with
  | tmp t =>
   simp only [Option.map_eq_some_iff] at hxp
   obtain ⟨v, hv, rfl⟩ := hxp
   refine Region.fac_told hck hold hA hv fun j hj => ?_
   have hjl : j < ops.size := by
    by_cases c : j < ops.size; exact c
    unfold Region.dstOf at hj; rw [Array.getElem?_eq_none (by omega)] at hj; cases hj
   have h1 := List.all_eq_true.1 hl.2 _ hx
   simp only [Bool.or_eq_true] at h1
   rcases h1 with h1 | h1
   ·have : t ∈ new.map (·.1) ++ old.map (·.1) := by rw [← List.map_append]; exact List.mem_map.2 ⟨_, lookup_mem hv, rfl⟩
    simp at h1
    simp at this
    rcases this with ⟨y, hy⟩ | ⟨y, hy⟩
    ·exact absurd hy (h1.1 y)
    ·exact absurd hy (h1.2 y)
   ·have h2 := List.all_eq_true.1 h1 j (by simpa using hjl)
    rw [hj] at h2
    simpa using h2
  | _ => cases hxp)
 refine ⟨fun _ => Oper.wp_mono (fun a' w' ⟨v, h1, h2, h3⟩ => ⟨v, h1, ?_, h3⟩) h, fun hw => by unfold Region.wanted at hw; rw [hg] at hw; cases hw⟩
 unfold Region.FacV; rw [hdst]; exact h2
structure Region.FacEnd (ops : Array Oper) (a0 : Act) (l : List (Tmp × Value)) (a : Act) : Prop where
 size : a.tmps.size = a0.tmps.size
 defers : a.defers = a0.defers
 told : Region.Told a l
 old : ∀ t, (ops.toList.all fun o => o.dst != some t) = true → a.tmps.getD t undef = a0.tmps.getD t undef
theorem Region.fac_end {a0 a : Act} {w : World} {m n : Nat} {new old : List (Tmp × Value)} (hck : Region.facOk ops m (new.map (·.1)) (old.map (·.1)) n = true) (hnd : ((new ++ old).map (·.1)).Nodup) (hold : Region.Told a0 old)
  (hA : Region.At ops (Region.FacV ops (new ++ old)) a0 (fun j => j < ops.size ∧ j ≠ m) a w) : Region.FacEnd ops a0 (new ++ old) a := by
 refine ⟨hA.size, hA.defers, Region.told_of fun p hp => ?_, fun t ht => hA.old' t ht⟩
 have lk : ∀ (l : List (Tmp × Value)), (l.map (·.1)).Nodup → ∀ p ∈ l, l.lookup p.1 = some p.2 := by
  intro l
  induction l with
  | nil => intro _ p hp; cases hp
  | cons q l ih =>
   intro hn p hp
   rw [List.map_cons, List.nodup_cons] at hn
   obtain ⟨k, x⟩ := q
   rcases List.mem_cons.1 hp with rfl | hp
   ·simp [List.lookup_cons]
   ·have : p.1 ≠ k := fun e => hn.1 (List.mem_map.2 ⟨p, hp, e⟩)
    rw [List.lookup_cons, show (p.1 == k) = false by simpa using this]
    exact ih hn.2 p hp
 refine Region.fac_told hck hold hA (lk _ hnd p hp) fun j hj => ?_
 have hjl : j < ops.size := by
  by_cases c : j < ops.size; exact c
  unfold Region.dstOf at hj; rw [Array.getElem?_eq_none (by omega)] at hj; cases hj
 refine ⟨hjl, fun e => ?_⟩
 subst e
 unfold Region.facOk at hck
 simp only [Bool.and_eq_true] at hck
 have := hck.1.1.1.1.1.2
 unfold Region.dstOf at hj
 cases ho : ops[j]? with
 | none => rw [ho] at hj; cases hj
 | some o => rw [ho] at hj this; simp at hj this; rw [hj] at this; cases this.2
theorem Region.fac_parts {m n : Nat} {ks os : List Tmp} (hck : Region.facOk ops m ks os n = true) : Region.back ops = true ∧ Region.bareAt ops m = true ∧ Region.dstsOk ops n = true ∧ Region.dstsApart ops = true := by
 unfold Region.facOk at hck
 simp only [Bool.and_eq_true] at hck
 obtain ⟨⟨⟨⟨⟨⟨h1, h2⟩, h3⟩, h4⟩, -⟩, -⟩, -⟩ := hck
 refine ⟨h1, ?_, h3, h4⟩
 unfold Region.bareAt
 cases ho : ops[m]? with
 | none => rfl
 | some o => rw [ho] at h2; simp at h2; simp [h2.1]
theorem wp_region_fac {id : Nat} {a0 : Act} {w0 : World} (hm : P.follows .mixedOrders = true) (n : Nat) (hn : a0.tmps.size = n) (m : Nat) (new old : List (Tmp × Value)) (hold : Region.Told a0 old)
  (hck : (Region.facOk ops m (new.map (·.1)) (old.map (·.1)) n && Region.lastIs ops m && decide ((new ++ old).map (·.1)).Nodup) = true) (S : World → Prop) (hG : ∀ w w', S w → Below w.heap.size w w' → S w') (h0 : S w0.drew)
  (hstep : Region.FacSteps P Q S (new ++ old) m 0 ops.toList) (hend : ∀ a w, S w → Region.FacEnd ops a0 (new ++ old) a → match ops[m]? with | none => Q .normal a w | some o => o.wp P a w (fun a' w' => Q .normal a' w') Q) : (Code.region id ops true).wp P Q a0 w0 := by
 rw [Bool.and_eq_true, Bool.and_eq_true] at hck
 obtain ⟨⟨hck, hlast⟩, hnd⟩ := hck
 obtain ⟨h1, h2, h3, h4⟩ := Region.fac_parts hck
 exact wp_region_vals hm m (Region.FacV ops (new ++ old)) S (fun w w' => Below w.heap.size w w') (fun w => Below.refl _ _) (fun w w' hS hB => ⟨hG w w' hS hB, fun _ _ h => h⟩) h1 h2 (hn ▸ h3) h4 hlast h0 (fun i o ho him a w hS hA => Region.fac_step hck hold hstep ho him hS hA) fun a w hS hA => hend a w hS (Region.fac_end hck (of_decide_eq_true hnd) hold hA)
theorem wp_line_fac {id : Nat} {a0 : Act} {w0 : World} (n : Nat) (hn : a0.tmps.size = n) (m : Nat) (new old : List (Tmp × Value)) (hold : Region.Told a0 old)
  (hck : (Region.facOk ops m (new.map (·.1)) (old.map (·.1)) n && decide (m + 1 ≥ ops.size ∧ ops.size > 0) && decide ((new ++ old).map (·.1)).Nodup) = true) (S : World → Prop) (hG : ∀ w w', S w → Below w.heap.size w w' → S w') (h0 : S w0)
  (hstep : Region.FacSteps P Q S (new ++ old) m 0 ops.toList) (hend : ∀ a w, S w → Region.FacEnd ops a0 (new ++ old) a → match ops[m]? with | none => Q .normal a w | some o => o.wp P a w (fun a' w' => Q .normal a' w') Q) : (Code.region id ops false).wp P Q a0 w0 := by
 rw [Bool.and_eq_true, Bool.and_eq_true] at hck
 obtain ⟨⟨hck, hlast⟩, hnd⟩ := hck
 have hl := of_decide_eq_true hlast
 obtain ⟨h1, h2, h3, h4⟩ := Region.fac_parts hck
 refine wp_region ?_
 rw [List.range_eq_range']
 exact wpOps_vals n hn m hl.1 (Region.FacV ops (new ++ old)) S (fun w w' => Below w.heap.size w w') (fun w => Below.refl _ _) (fun w w' hS hB => ⟨hG w w' hS hB, fun _ _ h => h⟩) h1 h2 h3 h4 (fun i o ho him a w hS hA => Region.fac_step hck hold hstep ho him hS hA) (fun a w hS hA => hend a w hS (Region.fac_end hck (of_decide_eq_true hnd) hold hA)) ops.size 0 a0 w0 (by omega) h0 ⟨rfl, rfl, fun j t hj => absurd hj (by omega), fun _ _ => rfl⟩ (fun h => by omega)
end
end Go
