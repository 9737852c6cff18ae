import Derived.ChangeOld
import Derived.Deep.Grids
import Derived.Lib.SmallJoins
import Derived.OpenShut
import Derived.ProofKit
import Derived.ShutString
import Derived.SizedLaws
import Derived.Test.YtcjdideliifkhaaGreatDoorB14
set_option maxRecDepth 100000
set_option maxHeartbeats 16000000
namespace Go.Proofs.YtcjdideliifkhaaGreatDoor
open Go.RowKit
set_option linter.unusedVariables false
set_option linter.unusedSimpArgs false
def afterLabel : Code → Option Code
 | .seq (.label _) x => some x
 | .seq a b => match afterLabel a with | some o => some o | none => afterLabel b
 | .scope c => afterLabel c
 | _ => none
def Told (t4 : Nat) (lv : Value) (w : World) : Option Int → Prop
 | some v => Own3 w t4 (.int .u64 0) (.int .i64 (v + 62135596800)) lv
 | none => Own3 w t4 (.int .u64 0) (.int .i64 0) (.pointer none)
def PassQ (w0 : World) (b u o t3 t4 : Nat) (lv : Value) (se mi ho dom mo dow : Int) (loc : Option Addr) (first last x0 : Int) : Exit → Act → World → Prop
 | .ret, a, w => a.defers = [] ∧ a.tmps.getD 4 undef = .pointer (some ⟨t4, 0, none⟩) ∧ Below w0.heap.size w0 w ∧ ∃ v, Cal.Ans (fOf se mi ho dom mo dow) first last v ∧ Told t4 lv w v
 | .goto 0, a, w => ∃ x : Int, Inv w0 b u o t3 t4 lv se mi ho dom mo dow loc last true x a w ∧ Pl (fOf se mi ho dom mo dow) first last true x ∧ x0 < x
 | _, _, _ => False
section
variable {w0 : World} {b u o t3 t4 : Nat} {lv : Value} {se mi ho dom mo dow : Int} {loc : Option Addr} {last first x0 : Int}
theorem loop_then {c rest : Code} {E : Int → Prop} {a : Act} {w : World}
  (h : c.wp Tryz.prog (LoopQ w0 b u o t3 t4 lv se mi ho dom mo dow loc first last x0 E) a w)
  (h2 : ∀ a w, (∃ (added : Bool) (x : Int), Inv w0 b u o t3 t4 lv se mi ho dom mo dow loc last added x a w ∧ Pl (fOf se mi ho dom mo dow) first last added x ∧ x0 ≤ x ∧ Cal.Y (x / 86400) ≤ last ∧ E x) → rest.wp Tryz.prog (PassQ w0 b u o t3 t4 lv se mi ho dom mo dow loc first last x0) a w) :
  (Code.seq c rest).wp Tryz.prog (PassQ w0 b u o t3 t4 lv se mi ho dom mo dow loc first last x0) a w := by
 refine wp_seq (wp_mono h ?_)
 intro e a1 w1 hq
 cases e with
 | normal => exact h2 _ _ hq
 | goto l =>
  cases l with
  | zero => exact hq
  | succ l => exact False.elim hq
 | exit l => exact False.elim hq
 | ret => exact False.elim hq
 | panic c => exact False.elim hq
 | outgrown => exact False.elim hq
theorem pass_c (hlast : last ≤ 27390) (hfirst : first ≤ x0) (X : Code) (hX : afterLabel (Tryz.f202.body.getD .skip) = some X) {a : Act} {w : World} {added : Bool}
  (hi : Inv w0 b u o t3 t4 lv se mi ho dom mo dow loc last added x0 a w) (hp : Pl (fOf se mi ho dom mo dow) first last added x0) :
  X.wp Tryz.prog (PassQ w0 b u o t3 t4 lv se mi ho dom mo dow loc first last x0) a w := by
 simp [Tryz.f202, afterLabel] at hX
 subst hX
 have hxa : -62135596800 ≤ x0 := by have := hp.lo; have := hp.from_; omega
 have hxb : x0 ≤ 900000000000 := hp.hi
 refine wp_seq (seq_of (rg10 hxa hxb hi _ (by kernel_rfl)) fun a1 w1 h1 => ?_)
 obtain ⟨hi1, ht1⟩ := h1
 by_cases hy : last < Cal.Y (x0 / 86400)
 ·rw [decide_eq_true hy] at ht1
  refine wp_cond_true ht1 (seq_of (rg11 hi1 _ (by kernel_rfl)) fun a2 w2 h2 => wp_ret ?_)
  exact ⟨h2.1, h2.2.1, h2.2.2.2.1, none, Cal.Ans.none_of hp.quiet hy, h2.2.2.1⟩
 ·rw [decide_eq_false hy] at ht1
  refine wp_cond_false ht1 (wp_skip ?_)
  refine loop_then (loop1 hlast _ (by kernel_rfl) ⟨added, x0, hi1, hp, Int.le_refl _, by omega, trivial⟩) fun a w h => ?_
  obtain ⟨ad, x, h⟩ := h
  refine loop_then (loop2 hlast _ (by kernel_rfl) ⟨ad, x, h.1, h.2.1, h.2.2.1, h.2.2.2.1, h.2.2.2.2.2⟩) fun a w h => ?_
  refine loop_then (loop3 hlast _ (by kernel_rfl) h) fun a w h => ?_
  refine loop_then (loop4 hlast _ (by kernel_rfl) h) fun a w h => ?_
  refine loop_then (loop5 hlast _ (by kernel_rfl) h) fun a w h => ?_
  obtain ⟨ad, x, hi, hp, hx, hy, hE⟩ := h
  refine seq_of (rg46 (by omega) hp.hi hi _ (by kernel_rfl)) fun a2 w2 h2 => wp_ret ?_
  refine ⟨h2.1, h2.2.1, h2.2.2.2.1, some x, ⟨hp.from_, ?_, hy, hp.quiet⟩, h2.2.2.1⟩
  obtain ⟨⟨⟨⟨hmo, hd⟩, hho⟩, hmi⟩, hse⟩ := hE
  unfold Cal.fits
  rw [show (fOf se mi ho dom mo dow).mo (Cal.M (x / 86400)) = hasBit mo (Cal.M (x / 86400)) from rfl, show (fOf se mi ho dom mo dow).ho (x % 86400 / 3600) = hasBit ho (x % 86400 / 3600) from rfl,
   show (fOf se mi ho dom mo dow).mi (x % 3600 / 60) = hasBit mi (x % 3600 / 60) from rfl, show (fOf se mi ho dom mo dow).se (x % 60) = hasBit se (x % 60) from rfl, hmo, hd, hho, hmi, hse]
  rfl
def JJ (w0 : World) (b t3 t4 : Nat) (lv : Value) (se mi ho dom mo dow : Int) (loc : Option Addr) (first last : Int) (a : Act) (w : World) : Prop :=
 ∃ (u o : Nat) (added : Bool) (x : Int), Inv w0 b u o t3 t4 lv se mi ho dom mo dow loc last added x a w ∧ Pl (fOf se mi ho dom mo dow) first last added x
theorem from_label (hlast : last ≤ 27390) (X : Code) (hX : afterLabel (Tryz.f202.body.getD .skip) = some X) {c : Code} {a : Act} {w : World} {Q : Exit → Act → World → Prop}
  (hc : findLabel c 0 = some (.seq .skip X))
  (hQ : ∀ u o x0 a w, PassQ w0 b u o t3 t4 lv se mi ho dom mo dow loc first last x0 .ret a w → Q .ret a w)
  (hfirst : (∀ a w, (∃ u o, Inv w0 b u o t3 t4 lv se mi ho dom mo dow loc last false first a w) → Pl (fOf se mi ho dom mo dow) first last false first → X.wp Tryz.prog (Exit.jump 0 (JJ w0 b t3 t4 lv se mi ho dom mo dow loc first last) Q) a w) →
   c.wp Tryz.prog (Exit.jump 0 (JJ w0 b t3 t4 lv se mi ho dom mo dow loc first last) Q) a w) :
  (Code.scope c).wp Tryz.prog Q a w := by
 refine wp_scope_jumps 0 (JJ w0 b t3 t4 lv se mi ho dom mo dow loc first last)
  (fun _ w => (962135596800 - secOf t3 w).toNat) hc (hfirst ?_) ?_
 ·rintro a w ⟨u, o, hi⟩ hp
  refine wp_mono (pass_c hlast (Int.le_refl _) X hX hi hp) ?_
  intro e a w hq
  cases e with
  | goto l =>
   cases l with
   | zero => obtain ⟨x, h1, h2, h3⟩ := hq; exact ⟨rfl, u, o, true, x, h1, h2⟩
   | succ l => exact False.elim hq
  | ret => exact hQ _ _ _ _ _ hq
  | normal => exact False.elim hq
  | exit l => exact False.elim hq
  | panic c => exact False.elim hq
  | outgrown => exact False.elim hq
 ·rintro a w ⟨u, o, added, x, hi, hp⟩
  refine wp_seq (wp_skip ?_)
  refine wp_mono (pass_c hlast hp.from_ X hX hi hp) ?_
  intro e a1 w1 hq
  cases e with
  | goto l =>
   cases l with
   | zero =>
    obtain ⟨y, h1, h2, h3⟩ := hq
    refine ⟨rfl, ⟨u, o, true, y, h1, h2⟩, ?_⟩
    rw [secOf_eq h1.2.t, secOf_eq hi.2.t]
    have := h2.hi
    omega
   | succ l => exact False.elim hq
  | ret => exact hQ _ _ _ _ _ hq
  | normal => exact False.elim hq
  | exit l => exact False.elim hq
  | panic c => exact False.elim hq
  | outgrown => exact False.elim hq
theorem last_of {P : Program} {R : Code} {Q : Exit → Act → World → Prop} {K : Act → World → Prop} {a : Act} {w : World} (h : R.wp P (Exit.then K (fun _ _ _ => False)) a w) (h2 : ∀ a w, K a w → Q .normal a w) : R.wp P Q a w :=
 wp_mono h (fun e a w hq => by cases e <;> first | exact False.elim hq | exact h2 _ _ hq)
end
def NextQ (f : Cal.F) (s : Int) (lv : Value) (w : World) (r : Ending) (w' : World) : Prop :=
 (∃ v : Option Int, Cal.Ans f (s + 1) (Cal.Y ((s + 1) / 86400) + 5) v ∧ r = .returned (match v with | some v => tm 0 (v + 62135596800) lv | none => tm 0 0 (.pointer none))) ∧ Below w.heap.size w w'
def scopeAt : Code → Option Code
 | .seq a b => match scopeAt a with | some o => some o | none => scopeAt b
 | .scope c => some c
 | _ => none
section
variable {w0 : World} {b t3 t4 : Nat} {lv : Value} {se mi ho dom mo dow : Int} {loc : Option Addr} {ns s : Int}
theorem mid_c {X : Code} {Q : Exit → Act → World → Prop} {u o : Nat} (h0 : 0 ≤ ns) (h1 : ns < 1000000000) (hs0 : -62135596800 ≤ s) (hs1 : s ≤ 800000000000)
  (hp : ∀ a w, (∃ u o, Inv w0 b u o t3 t4 lv se mi ho dom mo dow loc (Cal.Y ((s + 1) / 86400) + 5) false (s + 1) a w) → Pl (fOf se mi ho dom mo dow) (s + 1) (Cal.Y ((s + 1) / 86400) + 5) false (s + 1) → X.wp Tryz.prog Q a w)
  {ops7 ops8 ops9 : Array Oper} (o7 : opsAt 7 (Tryz.f202.body.getD .skip) = some ops7) (o8 : opsAt 8 (Tryz.f202.body.getD .skip) = some ops8) (o9 : opsAt 9 (Tryz.f202.body.getD .skip) = some ops9)
  {a : Act} {w : World} (hk : Kn 172 a [(0, .pointer (some ⟨b, 0, none⟩)), (3, .pointer (some ⟨t3, 0, none⟩)), (4, .pointer (some ⟨t4, 0, none⟩)), (5, .pointer (some ⟨o, 0, none⟩)), (6, .pointer (some ⟨u, 0, none⟩))])
  (hs : Pre w0 b t3 t4 se mi ho dom mo dow loc ns (s + 62135596800) (.pointer none) w ∧ OrgT t3 lv w o ∧ UtcT t3 w u) :
  (Code.seq (.region 7 ops7 true) (.seq (.region 8 ops8 false) (.seq (.region 9 ops9 false) (.seq (.label 0) X)))).wp Tryz.prog Q a w := by
 refine seq_of (rg7 h0 h1 (by omega) (by omega) hk hs _ o7) fun a1 w1 h => ?_
 rw [show s + 62135596800 + 1 = s + 1 + 62135596800 by omega] at h
 refine seq_of (rg8 h.1 h.2 _ o8) fun a2 w2 h => ?_
 refine seq_of (rg9 (by omega) (by omega) h.1 h.2 _ o9) fun a3 w3 h => wp_seq (wp_label ?_)
 obtain ⟨⟨k1, k2, k3, k4, k5, k6, k7, k8, k9, -⟩, hpre, ho, hu⟩ := h
 refine hp _ _ ⟨u, o, ⟨k1, k2, k3, k4, k5, k6, k7, k8, k9⟩, hpre.spec, hu.1, ho.1, hpre.t, hpre.r, hpre.below, hpre.b0, hpre.h3, hpre.h4, hpre.n34, hu.2, ho.2⟩ ⟨Int.le_refl _, by omega, by omega, Cal.Quiet.nil _ (Int.le_refl _), fun h => by cases h⟩
theorem scope_c (c : Code) (hc : scopeAt (Tryz.f202.body.getD .skip) = some c) (h0 : 0 ≤ ns) (h1 : ns < 1000000000) (hs0 : -62135596800 ≤ s) (hs1 : s ≤ 800000000000)
  {a : Act} {w : World} (hk : Kn 172 a [(0, .pointer (some ⟨b, 0, none⟩)), (3, .pointer (some ⟨t3, 0, none⟩)), (4, .pointer (some ⟨t4, 0, none⟩))])
  (hpre : Pre w0 b t3 t4 se mi ho dom mo dow loc ns (s + 62135596800) lv w) (hpl : Place t3 loc w lv)
  (hl : (loc = none ∧ lv = .pointer none) ∨ ∃ u, loc = some ⟨u, 0, none⟩) :
  (Code.scope c).wp Tryz.prog (bodyPost Tryz.prog Tryz.f202 (NextQ (fOf se mi ho dom mo dow) s lv w0)) a w := by
 have hlast : Cal.Y ((s + 1) / 86400) + 5 ≤ 27390 := by have := year_least (n := (s + 1) / 86400) (by omega); omega
 simp [Tryz.f202, scopeAt] at hc
 subst hc
 refine from_label (w0 := w0) (b := b) (t3 := t3) (t4 := t4) (lv := lv) (se := se) (mi := mi) (ho := ho) (dom := dom) (mo := mo) (dow := dow) (loc := loc) (first := s + 1) hlast _ (by kernel_rfl) rfl ?_ ?_
 ·rintro u o x0 a w ⟨q1, q2, q3, v, hv, ht⟩
  simp only [Array.getD_eq_getD_getElem?] at q2
  cases v with
  | none =>
   obtain ⟨-, r0, r1, r2, -, -, -⟩ := ht
   exact ⟨q1, tm 0 0 (.pointer none), by simp [results, Tryz.f202, go_sem, q2, r0, r1, r2], ⟨none, hv, rfl⟩, q3⟩
  | some v =>
   obtain ⟨p, rfl⟩ : ∃ p, lv = .pointer p := hpl.ptr
   obtain ⟨-, r0, r1, r2, -, -, -⟩ := ht
   exact ⟨q1, tm 0 (v + 62135596800) (.pointer p), by simp [results, Tryz.f202, go_sem, q2, r0, r1, r2], ⟨some v, hv, rfl⟩, q3⟩
 ·intro hp
  refine seq_of (rg1 hk ⟨hpre, hpl⟩ _ (by kernel_rfl)) fun a1 w1 h => ?_
  obtain ⟨o, hk1, ho, hpre1, hpl1⟩ := h
  refine seq_of (rg2 hk1 ⟨hpre1, hpl1, ho⟩ _ (by kernel_rfl)) fun a2 w2 h => ?_
  obtain ⟨hk2, hs2⟩ := h
  rcases hl with ⟨rfl, rfl⟩ | ⟨u, rfl⟩
  ·refine wp_seq (seq_of (rg3n hk2 hs2 _ (by kernel_rfl)) fun a3 w3 h => ?_)
   obtain ⟨⟨z1, z2, z3, z4, z5, z6, z7, z8, -⟩, hpre3, hpl3, ho3⟩ := h
   refine wp_cond_true z8 (last_of (rg4 ⟨z1, z2, z3, z4, z5, z6, trivial⟩ ⟨hpre3, ho3⟩ _ (by kernel_rfl)) fun a4 w4 h => ?_)
   obtain ⟨u, hk4, hpre4, ho4, hu4⟩ := h
   refine wp_seq (seq_of (rg5n hk4 ⟨hpre4, ho4, hu4⟩ _ (by kernel_rfl)) fun a5 w5 h => ?_)
   obtain ⟨⟨z1, z2, z3, z4, z5, z6, z7, z8, -⟩, hs5⟩ := h
   refine wp_cond_false z8 (wp_skip ?_)
   exact mid_c h0 h1 hs0 hs1 hp (by kernel_rfl) (by kernel_rfl) (by kernel_rfl) ⟨z1, z2, z3, z4, z5, z6, z7, trivial⟩ hs5
  ·refine wp_seq (seq_of (rg3s hk2 hs2 _ (by kernel_rfl)) fun a3 w3 h => ?_)
   obtain ⟨⟨z1, z2, z3, z4, z5, z6, z7, z8, -⟩, hpre3, hpl3, ho3⟩ := h
   refine wp_cond_false z8 (wp_skip ?_)
   refine wp_seq (seq_of (rg5s ⟨z1, z2, z3, z4, z5, z6, z7, trivial⟩ ⟨hpre3, hpl3, ho3, hpl3.2 u rfl⟩ _ (by kernel_rfl)) fun a5 w5 h => ?_)
   obtain ⟨⟨z1, z2, z3, z4, z5, z6, z7, z8, -⟩, hs5⟩ := h
   refine wp_cond_true z8 (last_of (rg6 h0 h1 ⟨z1, z2, z3, z4, z5, z6, z7, trivial⟩ hs5 _ (by kernel_rfl)) fun a6 w6 h => ?_)
   exact mid_c h0 h1 hs0 hs1 hp (by kernel_rfl) (by kernel_rfl) (by kernel_rfl) h.1 h.2
end
theorem next_c (b : Nat) (lv : Value) (se mi ho dom mo dow : Int) (loc : Option Addr) (ns s : Int) (h0 : 0 ≤ ns) (h1 : ns < 1000000000) (hs0 : -62135596800 ≤ s) (hs1 : s ≤ 800000000000) (w : World)
  (hs : IsSpec w b se mi ho dom mo dow loc) (hlv : lv = .pointer none ∨ ∃ z, z < w.heap.size ∧ w.cell? ⟨z, 0, none⟩ = some (.bool false) ∧ lv = .pointer (some ⟨z, 0, none⟩))
  (hl : (loc = none ∧ lv = .pointer none) ∨ ∃ u, loc = some ⟨u, 0, none⟩ ∧ IsUTC w u) :
  Calls Tryz.prog 202 #[.pointer (some ⟨b, 0, none⟩), tm ns (s + 62135596800) lv] w (NextQ (fOf se mi ho dom mo dow) s lv w) := by
 obtain ⟨p, hp⟩ : ∃ p, lv = .pointer p := by
  rcases hlv with h | ⟨z, -, -, h⟩
  ·exact ⟨_, h⟩
  ·exact ⟨_, h⟩
 have hb0 := hs.size
 subst hp
 go_enter Tryz.func202, Tryz.ntmps202
 refine wp_seq_k fun K hK => ?_
 go_wp2
 have hB : Below w.heap.size w ((w.alloc (Obj.cells #[Value.int IntKind.u64 ns, Value.int IntKind.i64 (s + 62135596800), Value.pointer p] 90)).alloc (Obj.cells #[Value.int IntKind.u64 0, Value.int IntKind.i64 0, Value.pointer none] 90)) :=
  ((Below.refl _ _).alloc (Nat.le_refl _) _).alloc (by simp) _
 have hpre : Pre w b w.heap.size (w.heap.size + 1) se mi ho dom mo dow loc ns (s + 62135596800) (.pointer p) ((w.alloc (Obj.cells #[Value.int IntKind.u64 ns, Value.int IntKind.i64 (s + 62135596800), Value.pointer p] 90)).alloc (Obj.cells #[Value.int IntKind.u64 0, Value.int IntKind.i64 0, Value.pointer none] 90)) :=
  ⟨hs.below hB, ⟨by simp; omega, by simp [go_sem], by simp [go_sem], by simp [go_sem], by simp [go_sem], by simp [go_sem], by simp [go_sem]⟩,
   ⟨by simp, by simp [go_sem], by simp [go_sem], by simp [go_sem], by simp [go_sem], by simp [go_sem], by simp [go_sem]⟩, hB, hb0, Nat.le_refl _, by omega, by omega⟩
 have hut : ∀ u, loc = some ⟨u, 0, none⟩ → UtcT w.heap.size ((w.alloc (Obj.cells #[Value.int IntKind.u64 ns, Value.int IntKind.i64 (s + 62135596800), Value.pointer p] 90)).alloc (Obj.cells #[Value.int IntKind.u64 0, Value.int IntKind.i64 0, Value.pointer none] 90)) u := by
  intro u e
  rcases hl with ⟨h, -⟩ | ⟨u', h, hu⟩
  ·rw [h] at e; cases e
  ·rw [h] at e; cases e; exact ⟨hu.below hB, by have := hu.size; omega⟩
 have hpl : Place w.heap.size loc ((w.alloc (Obj.cells #[Value.int IntKind.u64 ns, Value.int IntKind.i64 (s + 62135596800), Value.pointer p] 90)).alloc (Obj.cells #[Value.int IntKind.u64 0, Value.int IntKind.i64 0, Value.pointer none] 90)) (.pointer p) := by
  refine ⟨?_, hut⟩
  rcases hlv with h | ⟨z, z1, z2, h⟩
  ·exact .inl h
  ·exact .inr ⟨z, Nat.lt_of_lt_of_le z1 hB.size, by omega, (hB.cell (p := ⟨z, 0, none⟩) z1).trans z2, h⟩
 exact scope_c _ (by kernel_rfl) h0 h1 hs0 hs1 ⟨rfl, rfl, rfl, rfl, rfl, trivial⟩ hpre hpl (hl.imp id fun ⟨u, h, _⟩ => ⟨u, h⟩)
open Go.RowKit Go.Proofs.YtcjdideliifkhaaGreatDoorW.PrintWords
section
variable {w0 : World} {u : Nat}
end
theorem location_utc (w : World) :
  Calls Tryz.prog 33 #[.agg #[.slice none 0 0, .slice none 0 0, .slice none 0 0, .slice none 0 0]] w fun e w' => ∃ o, e = .returned (.pointer (some ⟨o, 0, none⟩)) ∧ Org w' o (.pointer none) ∧ Below w.heap.size w w' := by
 go_enter Tryz.func33, Tryz.ntmps33
 go_wp2_with (go_at_call 39; refine (utc_c _).mono ?_; rintro e w1 ⟨rfl, h1, h2⟩)
 go_ret
 exact ⟨_, rfl, .inl ⟨by simpa using h1, rfl⟩, ((Below.refl _ _).alloc (Nat.le_refl _) _).trans (h2.mono (by simp))⟩
end Go.Proofs.YtcjdideliifkhaaGreatDoor
namespace Go
open Go.RowKit
section
variable {P : Program} {ops : Array Oper} {Q : Exit → Act → World → Prop}
def Region.looksOk (ops : Array Oper) (i : Nat) (o : Oper) : Bool :=
 (match o.guard with | none => true | some g => (Region.depsOf ops i).contains g.1 && (Region.dstOf ops g.1).isSome) && (match o.op with | .select _ _ => false | _ => true) && o.op.operands.toList.all fun x => match x with
  | .tmp t => (List.range ops.size).all fun j => Region.dstOf ops j != some t || (Region.depsOf ops i).contains j
  | _ => true
def Region.detOk (ops : Array Oper) (m : Nat) (ks : List Tmp) (n : Nat) : Bool :=
 Region.back ops && (match ops[m]? with | some o => o.guard.isNone && o.dst.isNone | none => true) && Region.dstsOk ops n && Region.dstsApart ops &&
 (List.range ops.size).all (fun i => i == m || match ops[i]? with | some o => Region.looksOk ops i o && (match o.dst with | some t => ks.contains t | none => true) | none => true) &&
 ks.all (fun t => (List.range ops.size).any fun j => j != m && Region.dstOf ops j == some t)
def Region.DetStep (P : Program) (ops : Array Oper) (F : Act) (o : Oper) (w : World) : Option (Nat × Bool) → Prop
 | none => o.wp P F w (fun a' w' => a' = F ∧ Below w.heap.size w w') (fun _ _ _ => False)
 | some (j, want) => match F.tmps.getD ((Region.dstOf ops j).getD 0) undef with
  | .bool b => (b = want → o.wp P F w (fun a' w' => a' = F ∧ Below w.heap.size w w') (fun _ _ _ => False)) ∧ (b ≠ want → (o.dst.map fun d => F.tmps.getD d undef).getD undef = undef)
  | _ => (o.dst.map fun d => F.tmps.getD d undef).getD undef = undef
def Region.DetSteps (P : Program) (ops : Array Oper) (S : World → Prop) (F : Act) (m : Nat) : Nat → List Oper → Prop
 | _, [] => True
 | i, o :: l => (i ≠ m → ∀ w, S w → Region.DetStep P ops F o w o.guard) ∧ Region.DetSteps P ops S F m (i + 1) l
def Region.DetV (ops : Array Oper) (F : Act) (j : Nat) (v : Value) (_ : World) : Prop := match Region.dstOf ops j with | some t => v = F.tmps.getD t undef | none => True
theorem Oper.wp_act {o : Oper} {a F : Act} {w : World} (he : execOp a.eval o = execOp F.eval o) (hd : ∀ t, o.dst = some t → t < F.tmps.size)
  (h : o.wp P F w (fun a' w' => a' = F ∧ Below w.heap.size w w') (fun _ _ _ => False)) :
  o.wp P a w (fun a' w' => ∃ v, a' = a.put o.dst v ∧ (∀ t, o.dst = some t → v = F.tmps.getD t undef) ∧ Below w.heap.size w w') Q := by
 have key : ∀ v w', (F.put o.dst v = F ∧ Below w.heap.size w w') → ∃ v', a.put o.dst v = a.put o.dst v' ∧ (∀ t, o.dst = some t → v' = F.tmps.getD t undef) ∧ Below w.heap.size w w' := fun v w' ⟨h1, h2⟩ => by
  refine ⟨v, rfl, fun t ht => ?_, h2⟩
  rw [ht] at h1
  have h3 := hd t ht
  have h4 : (F.put (some t) v).tmps.getD t undef = v := by simp [Act.put, Array.getD, h3]
  rw [h1] at h4; exact h4.symm
 unfold Oper.wp at *
 rw [he]
 generalize (execOp F.eval o).run P w = r at *
 cases r with
 | ok n w' =>
  cases n with
  | value v => exact key _ _ h
  | skip => exact key _ _ h
  | defer d =>
   exfalso
   have h1 : ({ F with defers := d :: F.defers }.put o.dst undef).defers = F.defers := by rw [h.1]
   have h2 : ({ F with defers := d :: F.defers }.put o.dst undef).defers = d :: F.defers := by cases o.dst <;> rfl
   rw [h2] at h1
   exact absurd (congrArg List.length h1) (by simp)
  | enter f args =>
   refine Calls.mono h fun e w'' he => ?_
   cases e with
   | returned v => exact key _ _ he
   | panicked c => exact he.elim
   | outgrown => obtain ⟨_, _, h⟩ := he; exact h.elim
  | row r args => exact Rows.mono h fun _ _ he => key _ _ he
  | _ => first | exact h | exact h.elim
 | halt x w' => cases x <;> first | exact h | exact h.elim
theorem Region.det_eval {a0 F a : Act} {m n : Nat} {ks : List Tmp} (hck : Region.detOk ops m ks n = true) (hF0 : ∀ t, t ∉ ks → F.tmps.getD t undef = a0.tmps.getD t undef) {i : Nat} {o : Oper} (ho : ops[i]? = some o) (him : i ≠ m) {w : World}
  (hA : Region.At ops (Region.DetV ops F) a0 (· ∈ Region.depsOf ops i) a w) : execOp a.eval o = execOp F.eval o := by
 unfold Region.detOk at hck
 simp only [Bool.and_eq_true] at hck
 obtain ⟨⟨-, hl⟩, hk⟩ := hck
 have hi : i < ops.size := by
  by_cases c : i < ops.size; exact c
  rw [Array.getElem?_eq_none (by omega)] at ho; cases ho
 have h1 := List.all_eq_true.1 hl i (by simpa using hi)
 rw [ho] at h1
 have him' : (i == m) = false := by simpa using him
 simp only [him', Bool.false_or, Bool.and_eq_true] at h1
 obtain ⟨h1, -⟩ := h1
 unfold Region.looksOk at h1
 rw [Bool.and_eq_true, Bool.and_eq_true] at h1
 refine execOp_congr o (fun cs b e => ?_) fun x hx => ?_
 ·rw [e] at h1; cases h1.1.2
 ·have h2 := List.all_eq_true.1 h1.2 x (by simpa using hx)
  cases x with
  | tmp t =>
   show a.tmps.getD t undef = F.tmps.getD t undef
   simp only at h2
   by_cases c : ∃ j, Region.dstOf ops j = some t
   ·obtain ⟨j, hj⟩ := c
    have hjl : j < ops.size := by
     by_cases c : j < ops.size; exact c
     unfold Region.dstOf at hj; rw [Array.getElem?_eq_none (by omega)] at hj; cases hj
    have h3 := List.all_eq_true.1 h2 j (by simpa using hjl)
    rw [hj] at h3
    have h4 := hA.got j t (by simpa using h3) hj
    unfold Region.DetV at h4
    rw [hj] at h4
    exact h4
   ·have hno : ∀ j, Region.dstOf ops j ≠ some t := fun j hj => c ⟨j, hj⟩
    rw [hA.old t hno, hF0 t (fun ht => ?_)]
    have h5 := List.all_eq_true.1 hk t ht
    obtain ⟨j, _, h6⟩ := List.any_eq_true.1 h5
    simp only [Bool.and_eq_true, beq_iff_eq] at h6
    exact hno j h6.2
  | _ => rfl
theorem Region.det_looks {m n : Nat} {ks : List Tmp} (hck : Region.detOk ops m ks n = true) {i : Nat} {o : Oper} (ho : ops[i]? = some o) (him : i ≠ m) : Region.looksOk ops i o = true := by
 unfold Region.detOk at hck
 simp only [Bool.and_eq_true] at hck
 obtain ⟨⟨-, hl⟩, -⟩ := hck
 have hi : i < ops.size := by
  by_cases c : i < ops.size; exact c
  rw [Array.getElem?_eq_none (by omega)] at ho; cases ho
 have h1 := List.all_eq_true.1 hl i (by simpa using hi)
 rw [ho] at h1
 have him' : (i == m) = false := by simpa using him
 simp only [him', Bool.false_or, Bool.and_eq_true] at h1
 exact h1.1
theorem Region.det_step {a0 F a : Act} {m n : Nat} {ks : List Tmp} {S : World → Prop} (hck : Region.detOk ops m ks n = true) (hsz : F.tmps.size = n) (hF0 : ∀ t, t ∉ ks → F.tmps.getD t undef = a0.tmps.getD t undef)
  (hstep : Region.DetSteps P ops S F m 0 ops.toList) {i : Nat} {o : Oper} (ho : ops[i]? = some o) (him : i ≠ m) {w : World} (hS : S w)
  (hA : Region.At ops (Region.DetV ops F) a0 (· ∈ Region.depsOf ops i) a w) :
  (Region.wanted o (yielded ops a.tmps) = true → o.wp P a w (fun a' w' => ∃ v, a' = a.put o.dst v ∧ Region.DetV ops F i v w' ∧ Below w.heap.size w w') Q) ∧ (Region.wanted o (yielded ops a.tmps) = false → Region.DetV ops F i undef w) := by
 have hat : ∀ (l : List Oper) (k : Nat), Region.DetSteps P ops S F m k l → ∀ i o, l[i]? = some o → k + i ≠ m → ∀ w, S w → Region.DetStep P ops F o w o.guard := by
  intro l
  induction l with
  | nil => intro k _ i o h; simp at h
  | cons x l ih =>
   intro k h i o hi
   cases i with
   | zero => simp at hi; subst hi; exact h.1
   | succ i =>
    have := ih (k + 1) h.2 i o (by simpa using hi)
    rw [show k + 1 + i = k + (i + 1) by omega] at this
    exact this
 have h := hat ops.toList 0 hstep i o (by simpa using ho) (by omega) w hS
 have hd : ∀ t, o.dst = some t → t < F.tmps.size := fun t ht => by
  have hck' := hck
  unfold Region.detOk at hck'
  simp only [Bool.and_eq_true] at hck'
  have := List.all_eq_true.1 hck'.1.1.1.2 o (by simpa using Array.mem_of_getElem? ho)
  rw [ht] at this
  rw [hsz]; simpa using this
 have hdst : Region.dstOf ops i = o.dst := by unfold Region.dstOf; rw [ho]; rfl
 have run : o.wp P F w (fun a' w' => a' = F ∧ Below w.heap.size w w') (fun _ _ _ => False) → o.wp P a w (fun a' w' => ∃ v, a' = a.put o.dst v ∧ Region.DetV ops F i v w' ∧ Below w.heap.size w w') Q := fun h => by
  refine Oper.wp_mono (fun a' w' ⟨v, h1, h2, h3⟩ => ⟨v, h1, ?_, h3⟩) (Oper.wp_act (Region.det_eval hck hF0 ho him hA) hd h)
  unfold Region.DetV
  rw [hdst]
  cases hq : o.dst with
  | none => trivial
  | some t => exact h2 t hq
 unfold Region.wanted
 cases hg : o.guard with
 | none =>
  rw [hg] at h
  exact ⟨fun _ => run h, fun h => by cases h⟩
 | some g =>
  obtain ⟨j, want⟩ := g
  rw [hg] at h
  unfold Region.DetStep at h
  simp only at h
  have hl := Region.det_looks hck ho him
  unfold Region.looksOk at hl
  rw [hg, Bool.and_eq_true, Bool.and_eq_true] at hl
  have hl2 := hl.1.1
  simp only [Bool.and_eq_true] at hl2
  obtain ⟨t, ht⟩ := Option.isSome_iff_exists.1 hl2.2
  have hv := hA.got j t (by simpa using hl2.1) ht
  unfold Region.DetV at hv
  rw [ht] at hv h
  simp only [Option.getD_some] at hv h
  have hno : (o.dst.map fun d => F.tmps.getD d undef).getD undef = undef → Region.DetV ops F i undef w := fun h4 => by
   unfold Region.DetV
   rw [hdst]
   cases hq : o.dst with
   | none => trivial
   | some d => rw [hq] at h4; exact h4.symm
  have hyo : yielded ops a.tmps j = match F.tmps.getD t undef with | .bool b => some b | _ => none := by
   unfold yielded
   rw [show (ops[j]?).bind (·.dst) = some t from ht]
   simp only [Option.bind_some]
   rw [← hv, Array.getD_eq_getD_getElem?]
   cases a.tmps[t]? with
   | none => rfl
   | some v => cases v <;> rfl
  simp only [hyo]
  generalize F.tmps.getD t undef = x at h hyo
  clear hyo
  cases x with
  | bool b =>
   by_cases c : b = want
   ·subst c; exact ⟨fun _ => run (h.1 rfl), fun h => by simp at h⟩
   ·exact ⟨fun h => by simp at h; exact absurd h c, fun _ => hno (h.2 c)⟩
  | _ => exact ⟨fun h => by simp at h, fun _ => hno h⟩
theorem Region.det_frame {a0 F a : Act} {m n : Nat} {ks : List Tmp} {w : World} (hn : a0.tmps.size = n) (hsz : F.tmps.size = n) (hdf : F.defers = a0.defers) (hck : Region.detOk ops m ks n = true) (hF0 : ∀ t, t ∉ ks → F.tmps.getD t undef = a0.tmps.getD t undef)
  (hA : Region.At ops (Region.DetV ops F) a0 (fun j => j < ops.size ∧ j ≠ m) a w) : a = F := by
 have hg : ∀ t, a.tmps.getD t undef = F.tmps.getD t undef := fun t => by
  by_cases c : ∃ j, Region.dstOf ops j = some t
  ·obtain ⟨j, hj⟩ := c
   have hjl : j < ops.size := by
    by_cases c : j < ops.size; exact c
    unfold Region.dstOf at hj; rw [Array.getElem?_eq_none (by omega)] at hj; cases hj
   have hjm : j ≠ m := fun e => by
    subst e
    unfold Region.detOk at hck
    simp only [Bool.and_eq_true] at hck
    have := hck.1.1.1.1.2
    unfold Region.dstOf at hj
    cases ho : ops[j]? with
    | none => rw [ho] at hj; cases hj
    | some o => rw [ho] at hj this; simp at hj this; rw [hj] at this; cases this.2
   have h4 := hA.got j t ⟨hjl, hjm⟩ hj
   unfold Region.DetV at h4
   rw [hj] at h4
   exact h4
  ·have hno : ∀ j, Region.dstOf ops j ≠ some t := fun j hj => c ⟨j, hj⟩
   rw [hA.old t hno, hF0 t (fun ht => ?_)]
   unfold Region.detOk at hck
   simp only [Bool.and_eq_true] at hck
   obtain ⟨j, _, h6⟩ := List.any_eq_true.1 (List.all_eq_true.1 hck.2 t ht)
   simp only [Bool.and_eq_true, beq_iff_eq] at h6
   exact hno j h6.2
 have ht : a.tmps = F.tmps := by
  apply Array.ext
  ·rw [hA.size, hn, hsz]
  ·intro i h1 h2
   have := hg i
   rw [Array.getD, dif_pos h1, Array.getD, dif_pos h2] at this
   exact this
 obtain ⟨t, d⟩ := a
 simp only at ht
 have hd := hA.defers
 simp only at hd
 cases F
 simp_all
theorem Region.det_lit {a0 : Act} {n : Nat} (hn : a0.tmps.size = n) (l : List (Tmp × Value)) {F : Act} (hF : { tmps := l.foldl (fun t p => t.setIfInBounds p.1 p.2) a0.tmps, defers := a0.defers } = F) :
  F.tmps.size = n ∧ F.defers = a0.defers ∧ ∀ t, t ∉ l.map (·.1) → F.tmps.getD t undef = a0.tmps.getD t undef := by
 subst hF
 have gen : ∀ (l : List (Tmp × Value)) (arr : Array Value), (l.foldl (fun t p => t.setIfInBounds p.1 p.2) arr).size = arr.size ∧ ∀ t, t ∉ l.map (·.1) → (l.foldl (fun t p => t.setIfInBounds p.1 p.2) arr).getD t undef = arr.getD t undef := by
  intro l
  induction l with
  | nil => intro arr; exact ⟨rfl, fun _ _ => rfl⟩
  | cons p l ih =>
   intro arr
   obtain ⟨h1, h2⟩ := ih (arr.setIfInBounds p.1 p.2)
   refine ⟨by rw [List.foldl_cons, h1]; simp, fun t ht => ?_⟩
   rw [List.map_cons, List.mem_cons, not_or] at ht
   rw [List.foldl_cons, h2 t ht.2]
   simp [Array.getD_eq_getD_getElem?, Array.getElem?_setIfInBounds_ne (Ne.symm ht.1)]
 exact ⟨(gen l a0.tmps).1.trans hn, rfl, (gen l a0.tmps).2⟩
theorem wp_region_det {id : Nat} {a0 : Act} {w0 : World} (hm : P.follows .mixedOrders = true) (n : Nat) (hn : a0.tmps.size = n) (m : Nat) (l : List (Tmp × Value)) {F : Act}
  (hF : { tmps := l.foldl (fun t p => t.setIfInBounds p.1 p.2) a0.tmps, defers := a0.defers } = F) (hck : (Region.detOk ops m (l.map (·.1)) n && Region.lastIs ops m) = true)
  (S : World → Prop) (hG : ∀ w w', S w → Below w.heap.size w w' → S w') (h0 : S w0.drew) (hstep : Region.DetSteps P ops S F m 0 ops.toList)
  (hend : ∀ w, S w → match ops[m]? with | none => Q .normal F w | some o => o.wp P F w (fun a' w' => Q .normal a' w') Q) : (Code.region id ops true).wp P Q a0 w0 := by
 rw [Bool.and_eq_true] at hck
 obtain ⟨hck, hlast⟩ := hck
 obtain ⟨h1, h2, h3⟩ := Region.det_lit hn l hF
 have hck' := hck
 unfold Region.detOk at hck'
 simp only [Bool.and_eq_true] at hck'
 obtain ⟨⟨⟨⟨⟨hb, hb2⟩, hok⟩, hap⟩, -⟩, -⟩ := hck'
 refine wp_region_vals hm m (Region.DetV ops F) S (fun w w' => Below w.heap.size w w') (fun w => Below.refl _ _) (fun w w' hS hB => ⟨hG w w' hS hB, fun _ _ h => h⟩) hb ?_ (hn ▸ hok) hap hlast h0 (fun i o ho him a w hS hA => Region.det_step hck h1 h3 hstep ho him hS hA) fun a w hS hA => ?_
 ·unfold Region.bareAt
  cases ho : ops[m]? with
  | none => rfl
  | some o => rw [ho] at hb2; simp at hb2; simp [hb2.1]
 ·have := Region.det_frame hn h1 h2 hck h3 hA
  subst this
  exact hend w hS
end
end Go
namespace Go.Proofs.YtcjdideliifkhaaGreatDoor
open Go.RowKit Go.Proofs.YtcjdideliifkhaaGreatDoorW.PrintWords
open Go.ChangeShapes Go.WideShapes Go.ChangeAt Go.RowKit Go.Proofs.YtcjdideliifkhaaGreatDoorW.PrintWords
end Go.Proofs.YtcjdideliifkhaaGreatDoor
