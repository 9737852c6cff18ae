import Derived.BigQuiet
import Derived.Deep.LoopGhost
import Derived.Deep.QuietTactic
import Derived.LoopTactic
import Derived.ScopeJumps
import Derived.WalkMore
import Derived.Test.YtcjdideliifkhaaGreatDoorA15
set_option maxRecDepth 100000
set_option maxHeartbeats 16000000
namespace Go.Proofs.YtcjdideliifkhaaGreatDoor
open Go.RowKit
set_option linter.unusedVariables false
set_option linter.unusedSimpArgs false
def bitOf (b k : Int) : Int := bits .and .u64 (IntKind.u64.wrap (2 ^ k.toNat)) b
def hasBit (b k : Int) : Bool := decide (0 < bitOf b k)
def hasStar (b : Int) : Bool := decide (0 < bits .and .u64 b 9223372036854775808)
structure IsSpec (w : World) (b : Nat) (se mi ho dom mo dow : Int) (loc : Option Addr) : Prop where
 size : b < w.heap.size
 c0 : w.cell? ⟨b, 0, none⟩ = some (.int .u64 se)
 c1 : w.cell? ⟨b, 1, none⟩ = some (.int .u64 mi)
 c2 : w.cell? ⟨b, 2, none⟩ = some (.int .u64 ho)
 c3 : w.cell? ⟨b, 3, none⟩ = some (.int .u64 dom)
 c4 : w.cell? ⟨b, 4, none⟩ = some (.int .u64 mo)
 c5 : w.cell? ⟨b, 5, none⟩ = some (.int .u64 dow)
 c6 : w.cell? ⟨b, 6, none⟩ = some (.pointer loc)
theorem IsSpec.below {w w' : World} {b : Nat} {se mi ho dom mo dow : Int} {loc : Option Addr} (h : IsSpec w b se mi ho dom mo dow loc) (hb : Below w.heap.size w w') : IsSpec w' b se mi ho dom mo dow loc :=
 ⟨Nat.lt_of_lt_of_le h.1 hb.size, (hb.cell (p := ⟨b, 0, none⟩) h.1).trans h.2, (hb.cell (p := ⟨b, 1, none⟩) h.1).trans h.3, (hb.cell (p := ⟨b, 2, none⟩) h.1).trans h.4, (hb.cell (p := ⟨b, 3, none⟩) h.1).trans h.5,
  (hb.cell (p := ⟨b, 4, none⟩) h.1).trans h.6, (hb.cell (p := ⟨b, 5, none⟩) h.1).trans h.7, (hb.cell (p := ⟨b, 6, none⟩) h.1).trans h.8⟩
theorem dayMatches_c (b : Nat) (se mi ho dom mo dow : Int) (loc : Option Addr) (e : Int) (hs0 : 0 ≤ e) (hs1 : e ≤ 1000000000000) (w : World) (hs : IsSpec w b se mi ho dom mo dow loc) :
  Calls Tryz.prog 209 #[.pointer (some ⟨b, 0, none⟩), tm 0 e (.pointer none)] w fun r w' =>
   r = .returned (.bool (if hasStar dom || hasStar dow then hasBit dom (Cal.aD (dn e)) && hasBit dow ((dn e + 3) % 7) else hasBit dom (Cal.aD (dn e)) || hasBit dow ((dn e + 3) % 7))) ∧ Below w.heap.size w w' := by
 have hM := cM_in (dn e)
 obtain ⟨-, -, d0, d1⟩ := hM
 have w0 : 0 ≤ (dn e + 3) % 7 ∧ (dn e + 3) % 7 < 7 := by omega
 obtain ⟨w0, w1'⟩ := w0
 have hsz := hs.size
 have a3 := hs.c3
 have a5 := hs.c5
 have hx := bitOf dom (Cal.aD (dn e))
 go_enter Tryz.func209, Tryz.ntmps209
 go_wp2
 have k0 : (w.alloc (Obj.cells #[Value.int IntKind.u64 0, Value.int IntKind.i64 e, Value.pointer none] 90)).cell? ⟨b, 3, none⟩ = some (.int .u64 dom) := by
  rw [((Below.refl w.heap.size w).alloc (Nat.le_refl _) _).cell (p := ⟨b, 3, none⟩) hsz]; exact a3
 have k1 : (w.alloc (Obj.cells #[Value.int IntKind.u64 0, Value.int IntKind.i64 e, Value.pointer none] 90)).cell? ⟨b, 5, none⟩ = some (.int .u64 dow) := by
  rw [((Below.refl w.heap.size w).alloc (Nat.le_refl _) _).cell (p := ⟨b, 5, none⟩) hsz]; exact a5
 have hB0 : Below w.heap.size w (w.alloc (Obj.cells #[Value.int IntKind.u64 0, Value.int IntKind.i64 e, Value.pointer none] 90)) := (Below.refl _ _).alloc (Nat.le_refl _) _
 have t0 : (w.alloc (Obj.cells #[Value.int IntKind.u64 0, Value.int IntKind.i64 e, Value.pointer none] 90)).cell? ⟨w.heap.size, 0, none⟩ = some (.int .u64 0) := by simp [go_sem]
 have t1 : (w.alloc (Obj.cells #[Value.int IntKind.u64 0, Value.int IntKind.i64 e, Value.pointer none] 90)).cell? ⟨w.heap.size, 1, none⟩ = some (.int .i64 e) := by simp [go_sem]
 have t2 : (w.alloc (Obj.cells #[Value.int IntKind.u64 0, Value.int IntKind.i64 e, Value.pointer none] 90)).cell? ⟨w.heap.size, 2, none⟩ = some (.pointer none) := by simp [go_sem]
 have hz : w.heap.size < (w.alloc (Obj.cells #[Value.int IntKind.u64 0, Value.int IntKind.i64 e, Value.pointer none] 90)).heap.size := by simp
 generalize w.alloc (Obj.cells #[Value.int IntKind.u64 0, Value.int IntKind.i64 e, Value.pointer none] 90) = W at *
 have d2 : Cal.aD (dn e) ≤ 64 := by omega
 have d3 : IntKind.u64.wrap (Cal.aD (dn e)) = Cal.aD (dn e) := wraps_u64 _ (by omega) (by omega)
 have fS : ∀ w', Below W.heap.size W w' → (w'.cell? ⟨w.heap.size, 0, none⟩ = some (.int .u64 0) ∧ w'.cell? ⟨w.heap.size, 1, none⟩ = some (.int .i64 e) ∧ w'.cell? ⟨w.heap.size, 2, none⟩ = some (.pointer none) ∧
   w'.cell? ⟨b, 3, none⟩ = some (.int .u64 dom) ∧ w'.cell? ⟨b, 5, none⟩ = some (.int .u64 dow)) :=
  fun w' h => ⟨(h.cell (p := ⟨_, _, none⟩) hz).trans t0, (h.cell (p := ⟨_, _, none⟩) hz).trans t1, (h.cell (p := ⟨_, _, none⟩) hz).trans t2, (h.cell (p := ⟨b, 3, none⟩) (Nat.lt_trans hsz hz)).trans k0, (h.cell (p := ⟨b, 5, none⟩) (Nat.lt_trans hsz hz)).trans k1⟩
 clear t0 t1 t2 k0 k1
 have hX : Below W.heap.size W W.drew := (Below.refl _ _).drew
 go_region_held3 (fun w' => w'.cell? ⟨w.heap.size, 0, none⟩ = some (.int .u64 0) ∧ w'.cell? ⟨w.heap.size, 1, none⟩ = some (.int .i64 e) ∧ w'.cell? ⟨w.heap.size, 2, none⟩ = some (.pointer none) ∧
   w'.cell? ⟨b, 3, none⟩ = some (.int .u64 dom) ∧ w'.cell? ⟨b, 5, none⟩ = some (.int .u64 dow)) (exact fS _ hX)
  (first
   | (go_at_call 201; refine (day_t 0 e (by decide) (by decide) (by omega) (by omega) _).mono ?_; rintro r w1 ⟨rfl, hb⟩; replace hX := hX.trans (hb.mono hX.size)))
 rw [show decide (0 < bits BinOp.and IntKind.u64 (IntKind.u64.wrap (2 ^ (Cal.aD (dn e)).toNat)) dom) = hasBit dom (Cal.aD (dn e)) from rfl]
 clear d3
 go_wp2
 have w2 : (dn e + 3) % 7 ≤ 64 := by omega
 have w3 : IntKind.u64.wrap ((dn e + 3) % 7) = (dn e + 3) % 7 := wraps_u64 _ (by omega) (by omega)
 have hX2 : Below W.heap.size W w1.drew := hX.drew
 go_region_held3 (fun w' => w'.cell? ⟨w.heap.size, 0, none⟩ = some (.int .u64 0) ∧ w'.cell? ⟨w.heap.size, 1, none⟩ = some (.int .i64 e) ∧ w'.cell? ⟨w.heap.size, 2, none⟩ = some (.pointer none) ∧
   w'.cell? ⟨b, 3, none⟩ = some (.int .u64 dom) ∧ w'.cell? ⟨b, 5, none⟩ = some (.int .u64 dow)) (exact fS _ hX2)
  (first
   | (go_at_call 227; refine (weekday_t 0 e (by decide) (by decide) (by omega) (by omega) _).mono ?_; rintro r w1 ⟨rfl, hb⟩; replace hX2 := hX2.trans (hb.mono hX2.size)))
 rw [show decide (0 < bits BinOp.and IntKind.u64 (IntKind.u64.wrap (2 ^ ((dn e + 3) % 7).toNat)) dow) = hasBit dow ((dn e + 3) % 7) from rfl]
 clear w3
 have hBw : Below w.heap.size w _ := hB0.trans (hX2.mono (Nat.le_of_lt hz))
 by_cases P1 : 0 < bits .and .u64 dom 9223372036854775808
 ·have q1 : hasStar dom = true := decide_eq_true P1
  go_wp2
  all_goals
   go_ret
   exact ⟨by simp [*], hBw⟩
 ·have q1 : hasStar dom = false := decide_eq_false P1
  by_cases P2 : 0 < bits .and .u64 dow 9223372036854775808
  ·have q2 : hasStar dow = true := decide_eq_true P2
   go_wp2
   all_goals
    go_ret
    exact ⟨by simp [*], hBw⟩
  ·have q2 : hasStar dow = false := decide_eq_false P2
   go_wp2
   all_goals
    go_ret
    exact ⟨by simp [*], hBw⟩
theorem delayNext_c (k ns e : Int) (l : Value) (hl : ∃ p, l = .pointer p) (h0 : 0 ≤ ns) (h1 : ns < 1000000000) (hk0 : 1 ≤ k) (hk1 : k ≤ 9223372036) (hs0 : 0 ≤ e) (hs1 : e ≤ 1000000000000) (w : World) :
  Calls Tryz.prog 235 #[.agg #[.int .i64 (k * 1000000000)], tm ns e l] w fun r w' => r = .returned (tm 0 (e + k) l) ∧ Below w.heap.size w w' := by
 have hl' := hl
 obtain ⟨p, rfl⟩ := hl
 have hk : 0 ≤ k * 1000000000 - ns ∧ k * 1000000000 - ns ≤ 9223372036854775807 := by omega
 obtain ⟨hk2, hk3⟩ := hk
 have hk4 : 0 ≤ k * 1000000000 ∧ k * 1000000000 ≤ 9223372036854775807 := by omega
 obtain ⟨hk5, hk6⟩ := hk4
 have hwr : IntKind.i64.wrap ns = ns := by simp only [IntKind.wrap, IntKind.bits, IntKind.signed]; simp; omega
 have hwr2 : IntKind.i64.wrap (k * 1000000000 - ns) = k * 1000000000 - ns := by simp only [IntKind.wrap, IntKind.bits, IntKind.signed]; simp; omega
 go_enter Tryz.func235, Tryz.ntmps235
 go_wp2
 have hc : ∀ W : World, W = ((w.alloc (Obj.cells #[Value.int IntKind.i64 (k * 1000000000)] 144)).alloc (Obj.cells #[Value.int IntKind.u64 ns, Value.int IntKind.i64 e, Value.pointer p] 90)).alloc (Obj.cells #[Value.int IntKind.u64 0, Value.int IntKind.i64 0, Value.pointer none] 90) →
   (W.cell? ⟨w.heap.size, 0, none⟩ = some (.int .i64 (k * 1000000000)) ∧ W.cell? ⟨w.heap.size + 1, 0, none⟩ = some (.int .u64 ns) ∧ W.cell? ⟨w.heap.size + 1, 1, none⟩ = some (.int .i64 e) ∧ W.cell? ⟨w.heap.size + 1, 2, none⟩ = some (.pointer p)
   ∧ W.cell? ⟨w.heap.size + 2, 0, none⟩ = some (.int .u64 0) ∧ W.cell? ⟨w.heap.size + 2, 1, none⟩ = some (.int .i64 0) ∧ W.cell? ⟨w.heap.size + 2, 2, none⟩ = some (.pointer none)
   ∧ W.frozen? ⟨w.heap.size + 2, 0, none⟩ = false ∧ W.frozen? ⟨w.heap.size + 2, 1, none⟩ = false ∧ W.frozen? ⟨w.heap.size + 2, 2, none⟩ = false ∧ W.heap.size = w.heap.size + 3 ∧ Below w.heap.size w W) := by
  intro W hW
  subst hW
  refine ⟨by simp [go_sem], by simp [go_sem], by simp [go_sem], by simp [go_sem], by simp [go_sem], by simp [go_sem], by simp [go_sem], by simp [go_sem], by simp [go_sem], by simp [go_sem], by simp, ?_⟩
  exact (((Below.refl _ _).alloc (Nat.le_refl _) _).alloc (by simp) _).alloc (by simp; omega) _
 generalize hW : ((w.alloc (Obj.cells #[Value.int IntKind.i64 (k * 1000000000)] 144)).alloc (Obj.cells #[Value.int IntKind.u64 ns, Value.int IntKind.i64 e, Value.pointer p] 90)).alloc (Obj.cells #[Value.int IntKind.u64 0, Value.int IntKind.i64 0, Value.pointer none] 90) = W at hc ⊢
 obtain ⟨a0, b0, b1, b2, c0, c1, c2, f0, f1, f2, hz, hB⟩ := hc _ rfl
 clear hc hW
 have hz0 : w.heap.size < W.heap.size := by omega
 have hz1 : w.heap.size + 1 < W.heap.size := by omega
 have hz2 : w.heap.size + 2 < W.heap.size := by omega
 clear hz
 have fS : ∀ w', Below (w.heap.size + 2) W w' → (w'.cell? ⟨w.heap.size, 0, none⟩ = some (.int .i64 (k * 1000000000)) ∧ w'.cell? ⟨w.heap.size + 1, 0, none⟩ = some (.int .u64 ns) ∧ w'.cell? ⟨w.heap.size + 1, 1, none⟩ = some (.int .i64 e) ∧ w'.cell? ⟨w.heap.size + 1, 2, none⟩ = some (.pointer p)) :=
  fun w' h => ⟨(h.cell (p := ⟨_, 0, none⟩) (by simp)).trans a0, (h.cell (p := ⟨_, 0, none⟩) (by simp)).trans b0, (h.cell (p := ⟨_, 1, none⟩) (by simp)).trans b1, (h.cell (p := ⟨_, 2, none⟩) (by simp)).trans b2⟩
 have fR : ∀ w', Below W.heap.size W w' → (w'.cell? ⟨w.heap.size + 2, 0, none⟩ = some (.int .u64 0) ∧ w'.cell? ⟨w.heap.size + 2, 1, none⟩ = some (.int .i64 0) ∧ w'.cell? ⟨w.heap.size + 2, 2, none⟩ = some (.pointer none)
   ∧ w'.frozen? ⟨w.heap.size + 2, 0, none⟩ = false ∧ w'.frozen? ⟨w.heap.size + 2, 1, none⟩ = false ∧ w'.frozen? ⟨w.heap.size + 2, 2, none⟩ = false) :=
  fun w' h => ⟨(h.cell (p := ⟨_, 0, none⟩) hz2).trans c0, (h.cell (p := ⟨_, 1, none⟩) hz2).trans c1, (h.cell (p := ⟨_, 2, none⟩) hz2).trans c2,
   (h.frozen (p := ⟨_, 0, none⟩) hz2).trans f0, (h.frozen (p := ⟨_, 1, none⟩) hz2).trans f1, (h.frozen (p := ⟨_, 2, none⟩) hz2).trans f2⟩
 clear a0 b0 b1 b2 c0 c1 c2 f0 f1 f2
 have hX : Below W.heap.size W W.drew := (Below.refl _ _).drew
 go_region_held3 (fun w' => w'.cell? ⟨w.heap.size, 0, none⟩ = some (.int .i64 (k * 1000000000)) ∧ w'.cell? ⟨w.heap.size + 1, 0, none⟩ = some (.int .u64 ns) ∧ w'.cell? ⟨w.heap.size + 1, 1, none⟩ = some (.int .i64 e) ∧ w'.cell? ⟨w.heap.size + 1, 2, none⟩ = some (.pointer p))
  (first
   | exact fS _ (hX.mono (Nat.le_of_lt hz2))
   | exact fS _ ((((hX.mono (Nat.le_of_lt hz2)).setCell (by simp) _).setCell (by simp) _).setCell (by simp) _))
  (first
   | (go_at_call 98; refine (nanosecond_c ns e _ hl' h0 h1 _).mono ?_; rintro r w1 ⟨rfl, hb⟩; replace hX := hX.trans (hb.mono hX.size))
   | (go_at_call 204; refine (add_c ns e k _ _ hl' h0 h1 rfl hk2 hk3 (by omega) (by omega) _).mono ?_; rintro r w1 ⟨rfl, hb⟩; replace hX := hX.trans (hb.mono hX.size); have hR := fR _ hX))
 have hBw := hB.trans (hX.mono (by omega))
 go_wp2
 exact bodyPost_ret (v := tm 0 (e + k) (.pointer p)) (by simp [results, Tryz.f235, go_sem, hR]) rfl
  ⟨rfl, ((hBw.setCell (by simp; omega) _).setCell (by simp; omega) _).setCell (by simp; omega) _⟩
def Org (w : World) (o : Nat) (lv : Value) : Prop := (IsUTC w o ∧ lv = .pointer none) ∨ (o < w.heap.size ∧ w.cell? ⟨o, 0, none⟩ = some (.bool false) ∧ lv = .pointer (some ⟨o, 0, none⟩))
theorem Org.below {w w' : World} {o : Nat} {lv : Value} (h : Org w o lv) (hb : Below w.heap.size w w') : Org w' o lv := by
 rcases h with ⟨h, e⟩ | ⟨h1, h2, e⟩
 ·exact .inl ⟨h.below hb, e⟩
 ·exact .inr ⟨Nat.lt_of_lt_of_le h1 hb.size, (hb.cell (p := ⟨o, 0, none⟩) h1).trans h2, e⟩
structure Own3 (w : World) (t : Nat) (x y z : Value) : Prop where
 size : t < w.heap.size
 k0 : w.cell? ⟨t, 0, none⟩ = some x
 k1 : w.cell? ⟨t, 1, none⟩ = some y
 k2 : w.cell? ⟨t, 2, none⟩ = some z
 f0 : w.frozen? ⟨t, 0, none⟩ = false
 f1 : w.frozen? ⟨t, 1, none⟩ = false
 f2 : w.frozen? ⟨t, 2, none⟩ = false
theorem Own3.below {w w' : World} {t : Nat} {x y z : Value} (h : Own3 w t x y z) (hb : Below w.heap.size w w') : Own3 w' t x y z :=
 ⟨Nat.lt_of_lt_of_le h.1 hb.size, (hb.cell (p := ⟨t, 0, none⟩) h.1).trans h.2, (hb.cell (p := ⟨t, 1, none⟩) h.1).trans h.3, (hb.cell (p := ⟨t, 2, none⟩) h.1).trans h.4,
  (hb.frozen (p := ⟨t, 0, none⟩) h.1).trans h.5, (hb.frozen (p := ⟨t, 1, none⟩) h.1).trans h.6, (hb.frozen (p := ⟨t, 2, none⟩) h.1).trans h.7⟩
abbrev set3 (w : World) (t : Nat) (x y z : Value) : World := ((w.setCell ⟨t, 0, none⟩ x).setCell ⟨t, 1, none⟩ y).setCell ⟨t, 2, none⟩ z
theorem set3_heap (w : World) (t : Nat) (x y z : Value) : (set3 w t x y z).heap.size = w.heap.size := by simp [set3, World.setCell]
theorem set3_block (w : World) (t : Nat) (x y z : Value) (k : Nat) (h : k ≠ t) : (set3 w t x y z).heap[k]? = w.heap[k]? := by
 rw [Below.heap_setCell _ _ _ _ h, Below.heap_setCell _ _ _ _ h, Below.heap_setCell _ _ _ _ h]
theorem set3_cell (w : World) (t : Nat) (x y z : Value) (p : Addr) (h : p.block ≠ t) : (set3 w t x y z).cell? p = w.cell? p :=
 World.cell?_of_block (w := w) (set3_block w t x y z p.block h)
theorem set3_frozen (w : World) (t : Nat) (x y z : Value) (p : Addr) (h : p.block ≠ t) : (set3 w t x y z).frozen? p = w.frozen? p :=
 World.frozen?_of_block (w := w) (set3_block w t x y z p.block h)
theorem Own3.set {w : World} {t : Nat} {x y z : Value} (h : Own3 w t x y z) (x' y' z' : Value) : Own3 (set3 w t x' y' z') t x' y' z' := by
 obtain ⟨h1, h2, h3, h4, h5, h6, h7⟩ := h
 refine ⟨by rw [set3_heap]; exact h1, ?_, ?_, ?_, ?_, ?_, ?_⟩ <;> simp [set3, go_sem, h2, h3, h4, h5, h6, h7]
theorem Own3.other {w : World} {t t' : Nat} {x y z : Value} (h : Own3 w t x y z) (hne : t ≠ t') (x' y' z' : Value) : Own3 (set3 w t' x' y' z') t x y z :=
 ⟨by rw [set3_heap]; exact h.1, by rw [set3_cell _ _ _ _ _ _ hne]; exact h.2, by rw [set3_cell _ _ _ _ _ _ hne]; exact h.3, by rw [set3_cell _ _ _ _ _ _ hne]; exact h.4,
  by rw [set3_frozen _ _ _ _ _ _ hne]; exact h.5, by rw [set3_frozen _ _ _ _ _ _ hne]; exact h.6, by rw [set3_frozen _ _ _ _ _ _ hne]; exact h.7⟩
theorem IsUTC.other {w : World} {u t' : Nat} (h : IsUTC w u) (hne : u ≠ t') (x' y' z' : Value) : IsUTC (set3 w t' x' y' z') u :=
 ⟨by rw [set3_heap]; exact h.1, by rw [set3_cell _ _ _ _ _ _ hne]; exact h.2, by rw [set3_cell _ _ _ _ _ _ hne]; exact h.3⟩
theorem Org.other {w : World} {o t' : Nat} {lv : Value} (h : Org w o lv) (hne : o ≠ t') (x' y' z' : Value) : Org (set3 w t' x' y' z') o lv := by
 rcases h with ⟨h, e⟩ | ⟨h1, h2, e⟩
 ·exact .inl ⟨h.other hne _ _ _, e⟩
 ·exact .inr ⟨by rw [set3_heap]; exact h1, by rw [set3_cell _ _ _ _ _ _ hne]; exact h2, e⟩
theorem IsSpec.other {w : World} {b t' : Nat} {se mi ho dom mo dow : Int} {loc : Option Addr} (h : IsSpec w b se mi ho dom mo dow loc) (hne : b ≠ t') (x' y' z' : Value) : IsSpec (set3 w t' x' y' z') b se mi ho dom mo dow loc :=
 ⟨by rw [set3_heap]; exact h.1, by rw [set3_cell _ _ _ _ _ _ hne]; exact h.2, by rw [set3_cell _ _ _ _ _ _ hne]; exact h.3, by rw [set3_cell _ _ _ _ _ _ hne]; exact h.4,
  by rw [set3_cell _ _ _ _ _ _ hne]; exact h.5, by rw [set3_cell _ _ _ _ _ _ hne]; exact h.6, by rw [set3_cell _ _ _ _ _ _ hne]; exact h.7, by rw [set3_cell _ _ _ _ _ _ hne]; exact h.8⟩
structure St (w0 : World) (b u o t3 t4 : Nat) (lv : Value) (se mi ho dom mo dow : Int) (loc : Option Addr) (w : World) (e : Int) : Prop where
 spec : IsSpec w b se mi ho dom mo dow loc
 utc : IsUTC w u
 org : Org w o lv
 t : Own3 w t3 (.int .u64 0) (.int .i64 e) (.pointer none)
 r : Own3 w t4 (.int .u64 0) (.int .i64 0) (.pointer none)
 below : Below w0.heap.size w0 w
 b0 : b < w0.heap.size
 h3 : w0.heap.size ≤ t3
 h4 : w0.heap.size ≤ t4
 n34 : t3 ≠ t4
 nu : u ≠ t3
 no : o ≠ t3
theorem St.goes {w0 : World} {b u o t3 t4 : Nat} {lv : Value} {se mi ho dom mo dow : Int} {loc : Option Addr} {w w' : World} {e : Int} (h : St w0 b u o t3 t4 lv se mi ho dom mo dow loc w e) (hb : Below w.heap.size w w') : St w0 b u o t3 t4 lv se mi ho dom mo dow loc w' e :=
 { h with spec := h.spec.below hb, utc := h.utc.below hb, org := h.org.below hb, t := h.t.below hb, r := h.r.below hb, below := h.below.trans (hb.mono h.below.size) }
theorem St.drew {w0 : World} {b u o t3 t4 : Nat} {lv : Value} {se mi ho dom mo dow : Int} {loc : Option Addr} {w : World} {e : Int} (h : St w0 b u o t3 t4 lv se mi ho dom mo dow loc w e) : St w0 b u o t3 t4 lv se mi ho dom mo dow loc w.drew e :=
 h.goes (Below.refl _ _).drew
theorem St.put {w0 : World} {b u o t3 t4 : Nat} {lv : Value} {se mi ho dom mo dow : Int} {loc : Option Addr} {w : World} {e : Int} (h : St w0 b u o t3 t4 lv se mi ho dom mo dow loc w e) (e' : Int) : St w0 b u o t3 t4 lv se mi ho dom mo dow loc (set3 w t3 (.int .u64 0) (.int .i64 e') (.pointer none)) e' :=
 { h with
  spec := h.spec.other (by have := h.b0; have := h.h3; omega) _ _ _, utc := h.utc.other h.nu _ _ _, org := h.org.other h.no _ _ _, t := h.t.set _ _ _, r := h.r.other (Ne.symm h.n34) _ _ _,
  below := ((h.below.setCell h.h3 _).setCell h.h3 _).setCell h.h3 _ }
abbrev at_ (x : Int) : Value := tm 0 (x + 62135596800) (.pointer none)
def fOf (se mi ho dom mo dow : Int) : Cal.F :=
 ⟨fun k => hasBit mo k, fun k => hasBit dom k, fun k => hasBit dow k, fun k => hasBit ho k, fun k => hasBit mi k, fun k => hasBit se k, hasStar dom || hasStar dow⟩
theorem year_s (x : Int) (h0 : -62135596800 ≤ x) (h1 : x ≤ 900000000000) (w : World) : Calls Tryz.prog 205 #[at_ x] w fun r w' => r = .returned (.int .i64 (Cal.Y (x / 86400))) ∧ Below w.heap.size w w' := by
 have := year_t 0 (x + 62135596800) (by decide) (by decide) (by omega) (by omega) w; rw [dn_eq] at this; exact this
theorem month_s (x : Int) (h0 : -62135596800 ≤ x) (h1 : x ≤ 900000000000) (w : World) : Calls Tryz.prog 206 #[at_ x] w fun r w' => r = .returned (.int .i64 (Cal.M (x / 86400))) ∧ Below w.heap.size w w' := by
 have := month_t 0 (x + 62135596800) (by decide) (by decide) (by omega) (by omega) w; rw [dn_eq] at this; exact this
theorem day_s (x : Int) (h0 : -62135596800 ≤ x) (h1 : x ≤ 900000000000) (w : World) : Calls Tryz.prog 201 #[at_ x] w fun r w' => r = .returned (.int .i64 (Cal.D (x / 86400))) ∧ Below w.heap.size w w' := by
 have := day_t 0 (x + 62135596800) (by decide) (by decide) (by omega) (by omega) w; rw [dn_eq] at this; exact this
theorem hour_s (x : Int) (h0 : -62135596800 ≤ x) (h1 : x ≤ 900000000000) (w : World) : Calls Tryz.prog 210 #[at_ x] w fun r w' => r = .returned (.int .i64 (x % 86400 / 3600)) ∧ Below w.heap.size w w' := by
 have := hour_t 0 (x + 62135596800) (by decide) (by decide) (by omega) (by omega) w; rw [show (x + 62135596800) % 86400 = x % 86400 by omega] at this; exact this
theorem minute_s (x : Int) (h0 : -62135596800 ≤ x) (h1 : x ≤ 900000000000) (w : World) : Calls Tryz.prog 211 #[at_ x] w fun r w' => r = .returned (.int .i64 (x % 3600 / 60)) ∧ Below w.heap.size w w' := by
 have := minute_t 0 (x + 62135596800) (by decide) (by decide) (by omega) (by omega) w; rw [show (x + 62135596800) % 3600 = x % 3600 by omega] at this; exact this
theorem second_s (x : Int) (h0 : -62135596800 ≤ x) (h1 : x ≤ 900000000000) (w : World) : Calls Tryz.prog 213 #[at_ x] w fun r w' => r = .returned (.int .i64 (x % 60)) ∧ Below w.heap.size w w' := by
 have := second_t 0 (x + 62135596800) (by decide) (by decide) (by omega) (by omega) w; rw [show (x + 62135596800) % 60 = x % 60 by omega] at this; exact this
theorem dayMatches_s (x : Int) (h0 : -62135596800 ≤ x) (h1 : x ≤ 900000000000) (w : World) (b : Nat) (se mi ho dom mo dow : Int) (loc : Option Addr) (hs : IsSpec w b se mi ho dom mo dow loc) :
  Calls Tryz.prog 209 #[.pointer (some ⟨b, 0, none⟩), at_ x] w fun r w' => r = .returned (.bool (Cal.dayFits (fOf se mi ho dom mo dow) (x / 86400))) ∧ Below w.heap.size w w' := by
 have := dayMatches_c b se mi ho dom mo dow loc (x + 62135596800) (by omega) (by omega) w hs
 rw [dn_eq, show (x / 86400 + Cal.off + 3) % 7 = Cal.W (x / 86400) by unfold Cal.off Cal.W; omega] at this
 exact this
theorem add_s (x : Int) (h0 : -62135596800 ≤ x) (h1 : x ≤ 900000000000) (w : World) (k d : Int) (hd : d = k * 1000000000) (hk0 : 0 ≤ k) (hk1 : k ≤ 1000000) :
  Calls Tryz.prog 204 #[at_ x, .int .i64 d] w fun r w' => r = .returned (at_ (x + k)) ∧ Below w.heap.size w w' := by
 have := add_c 0 (x + 62135596800) k d (.pointer none) ⟨_, rfl⟩ (by decide) (by decide) (by omega) (by omega) (by omega) (by omega) (by omega) w
 rw [show x + 62135596800 + k = x + k + 62135596800 by omega] at this; exact this
theorem truncMinute_s (x : Int) (h0 : -62135596800 ≤ x) (h1 : x ≤ 900000000000) (w : World) : Calls Tryz.prog 212 #[at_ x, .int .i64 60000000000] w fun r w' => r = .returned (at_ (x - x % 60)) ∧ Below w.heap.size w w' := by
 have := truncate_minute (x + 62135596800) (.pointer none) ⟨_, rfl⟩ (by omega) (by omega) w
 rw [show x + 62135596800 + -((x + 62135596800) % 60) = x - x % 60 + 62135596800 by omega] at this; exact this
theorem truncSecond_s (x : Int) (h0 : -62135596800 ≤ x) (h1 : x ≤ 900000000000) (w : World) : Calls Tryz.prog 212 #[at_ x, .int .i64 1000000000] w fun r w' => r = .returned (at_ x) ∧ Below w.heap.size w w' :=
 truncate_second (x + 62135596800) (.pointer none) ⟨_, rfl⟩ (by omega) (by omega) w
theorem addDay_s (x : Int) (h0 : -62135596800 ≤ x) (h1 : x ≤ 900000000000) (w : World) : Calls Tryz.prog 208 #[at_ x, .int .i64 0, .int .i64 0, .int .i64 1] w fun r w' => r = .returned (at_ (x + 86400)) ∧ Below w.heap.size w w' := by
 have := addDate_c (x + 62135596800) 0 1 (by omega) (by omega) (by decide) (by decide) (by decide) (by decide) w
 rw [dn_eq, Int.add_zero, Cal.day_add, show Cal.day (Cal.cY (x / 86400 + Cal.off)) (Cal.cM (x / 86400 + Cal.off)) (Cal.aD (x / 86400 + Cal.off)) = x / 86400 from Cal.date_day (x / 86400),
  show 86400 * (x / 86400 + 1) + ((x + 62135596800) % 86400 / 3600 * 3600 + (x + 62135596800) % 3600 / 60 * 60 + (x + 62135596800) % 60) + 62135596800 = x + 86400 + 62135596800 by omega] at this
 exact this
theorem addMonth_s (x : Int) (h0 : -62135596800 ≤ x) (h1 : x ≤ 900000000000) (w : World) (hd : Cal.D (x / 86400) = 1) (hz : x % 86400 = 0) : Calls Tryz.prog 208 #[at_ x, .int .i64 0, .int .i64 1, .int .i64 0] w fun r w' => r = .returned (at_ (86400 * Cal.nm (x / 86400))) ∧ Below w.heap.size w w' := by
 have := addDate_c (x + 62135596800) 1 0 (by omega) (by omega) (by decide) (by decide) (by decide) (by decide) w
 rw [dn_eq, Int.add_zero, show Cal.aD (x / 86400 + Cal.off) = 1 from hd, show Cal.day (Cal.cY (x / 86400 + Cal.off)) (Cal.cM (x / 86400 + Cal.off) + 1) 1 = Cal.nm (x / 86400) from (Cal.nm_day (x / 86400)).symm,
  show 86400 * Cal.nm (x / 86400) + ((x + 62135596800) % 86400 / 3600 * 3600 + (x + 62135596800) % 3600 / 60 * 60 + (x + 62135596800) % 60) + 62135596800 = 86400 * Cal.nm (x / 86400) + 62135596800 by omega] at this
 exact this
theorem date_in (x : Int) (h0 : -62135596800 ≤ x) (h1 : x ≤ 900000000000) : 1 ≤ Cal.Y (x / 86400) ∧ Cal.Y (x / 86400) ≤ 40000 := by
 have := cY_in (e := x + 62135596800) (by omega) (by omega); rw [dn_eq] at this; exact this
theorem monthStart_s (x : Int) (h0 : -62135596800 ≤ x) (h1 : x ≤ 900000000000) (w : World) (u : Nat) (hu : IsUTC w u) : Calls Tryz.prog 207 #[.int .i64 (Cal.Y (x / 86400)), .int .i64 (Cal.M (x / 86400)), .int .i64 1, .int .i64 0, .int .i64 0, .int .i64 0, .int .i64 0, .pointer (some ⟨u, 0, none⟩)] w fun r w' =>
  r = .returned (at_ (86400 * (x / 86400 - Cal.D (x / 86400) + 1))) ∧ Below w.heap.size w w' := by
 have hy := date_in x h0 h1
 have hv := Cal.date_valid (x / 86400)
 have := mkdate (Cal.Y (x / 86400)) (Cal.M (x / 86400)) 1 0 0 0 (by omega) (by omega) hv.1 (by have := hv.2.1; omega) (by decide) (by decide) (by decide) (by decide) (by decide) (by decide) (by decide) (by decide) u w hu
 rw [show Cal.day (Cal.Y (x / 86400)) (Cal.M (x / 86400)) 1 = x / 86400 - Cal.D (x / 86400) + 1 by
  have e := Cal.date_day (x / 86400)
  have := Cal.day_add (Cal.Y (x / 86400)) (Cal.M (x / 86400)) 1 (Cal.D (x / 86400) - 1)
  rw [show 1 + (Cal.D (x / 86400) - 1) = Cal.D (x / 86400) by omega, e] at this; omega,
  show 86400 * (x / 86400 - Cal.D (x / 86400) + 1) + (0 * 3600 + 0 * 60 + 0) + 62135596800 = 86400 * (x / 86400 - Cal.D (x / 86400) + 1) + 62135596800 by omega] at this
 exact this
theorem hourStart_s (x : Int) (h0 : -62135596800 ≤ x) (h1 : x ≤ 900000000000) (w : World) (h : Int) (hh0 : 0 ≤ h) (hh1 : h < 24) (u : Nat) (hu : IsUTC w u) : Calls Tryz.prog 207 #[.int .i64 (Cal.Y (x / 86400)), .int .i64 (Cal.M (x / 86400)), .int .i64 (Cal.D (x / 86400)), .int .i64 h, .int .i64 0, .int .i64 0, .int .i64 0, .pointer (some ⟨u, 0, none⟩)] w fun r w' =>
  r = .returned (at_ (86400 * (x / 86400) + h * 3600)) ∧ Below w.heap.size w w' := by
 have hy := date_in x h0 h1
 have hv := Cal.date_valid (x / 86400)
 have hp := Cal.mdays_pos (Cal.Y (x / 86400)) (Cal.M (x / 86400))
 obtain ⟨v1, v2, v3, v4⟩ := hv
 have := mkdate (Cal.Y (x / 86400)) (Cal.M (x / 86400)) (Cal.D (x / 86400)) h 0 0 (by omega) (by omega) v1 (by omega) v3 (by omega) hh0 hh1 (by decide) (by decide) (by decide) (by decide) u w hu
 rw [Cal.date_day, show 86400 * (x / 86400) + (h * 3600 + 0 * 60 + 0) + 62135596800 = 86400 * (x / 86400) + h * 3600 + 62135596800 by omega] at this
 exact this
structure Pl (f : Cal.F) (first last : Int) (added : Bool) (s : Int) : Prop where
 from_ : first ≤ s
 lo : -62135596800 ≤ first
 hi : s ≤ 900000000000
 quiet : Cal.Quiet f first s
 al : added = true → Cal.Al f s
def secOf (t3 : Nat) (w : World) : Int := match w.cell? ⟨t3, 1, none⟩ with | some v => intOf v | none => 0
theorem secOf_eq {w : World} {t : Nat} {x z : Value} {e : Int} (h : Own3 w t x (.int .i64 e) z) : secOf t w = e := by unfold secOf; rw [h.k1]; rfl
theorem ms_facts (n : Int) : Cal.Y (n - Cal.D n + 1) = Cal.Y n ∧ Cal.M (n - Cal.D n + 1) = Cal.M n ∧ Cal.D (n - Cal.D n + 1) = 1 ∧ Cal.nm (n - Cal.D n + 1) = Cal.nm n := by
 have v := Cal.date_valid n
 have g := Cal.nm_gt n
 have h := Cal.in_month (n := n) (u := n - Cal.D n + 1) (by omega) (by have := v.2.2.1; omega)
 refine ⟨h.1, h.2.1, by rw [h.2.2]; omega, ?_⟩
 unfold Cal.nm
 rw [h.1, h.2.1, h.2.2]; omega
theorem ms_least {n : Int} (h : 1 ≤ Cal.Y n) : -719162 ≤ n - Cal.D n + 1 := by
 have h2 := ms_facts n
 have b := (Cal.Y_bounds (n - Cal.D n + 1)).1
 rw [h2.1] at b
 unfold Cal.ys at b
 omega
theorem bits_nonneg (a b : Int) : 0 ≤ bits .and .u64 a b := by
 have : ∀ x, 0 ≤ IntKind.u64.wrap x := fun x => by have : IntKind.u64.wrap x = x % 18446744073709551616 := by simp [IntKind.wrap, IntKind.bits, IntKind.signed]
                                                   rw [this]; omega
 unfold bits
 exact this _
theorem year_below {n L : Int} (h : Cal.Y n ≤ L) (hL : L ≤ 27400) : n ≤ 9300000 := by
 have a := (Cal.Y_bounds n).2
 have : Cal.ys (Cal.Y n + 1) ≤ 9300000 := by unfold Cal.ys; omega
 omega
theorem year_least {n : Int} (h : n ≤ 9259261) : Cal.Y n ≤ 27380 := by
 have a := (Cal.Y_bounds n).1
 unfold Cal.ys at a
 omega
structure Fr (b u o t3 t4 : Nat) (last : Int) (added : Bool) (a : Act) : Prop where
 sz : a.tmps.size = 172
 df : a.defers = []
 g0 : a.tmps.getD 0 undef = .pointer (some ⟨b, 0, none⟩)
 g3 : a.tmps.getD 3 undef = .pointer (some ⟨t3, 0, none⟩)
 g4 : a.tmps.getD 4 undef = .pointer (some ⟨t4, 0, none⟩)
 g5 : a.tmps.getD 5 undef = .pointer (some ⟨o, 0, none⟩)
 g6 : a.tmps.getD 6 undef = .pointer (some ⟨u, 0, none⟩)
 g7 : a.tmps.getD 7 undef = .bool added
 g8 : a.tmps.getD 8 undef = .int .i64 last
theorem Fr.keep {b u o t3 t4 : Nat} {last : Int} {added : Bool} {a a' : Act} (h : Fr b u o t3 t4 last added a) (hs : a'.tmps.size = a.tmps.size) (hd : a'.defers = a.defers)
  (ho : ∀ t, t < 9 → a'.tmps.getD t undef = a.tmps.getD t undef) : Fr b u o t3 t4 last added a' :=
 ⟨hs.trans h.sz, hd.trans h.df, (ho 0 (by decide)).trans h.g0, (ho 3 (by decide)).trans h.g3, (ho 4 (by decide)).trans h.g4, (ho 5 (by decide)).trans h.g5, (ho 6 (by decide)).trans h.g6, (ho 7 (by decide)).trans h.g7, (ho 8 (by decide)).trans h.g8⟩
section
variable {P : Program} {w0 : World} {b u o t3 t4 : Nat} {lv : Value} {se mi ho dom mo dow : Int} {loc : Option Addr} {last : Int}
def Inv (w0 : World) (b u o t3 t4 : Nat) (lv : Value) (se mi ho dom mo dow : Int) (loc : Option Addr) (last : Int) (added : Bool) (x : Int) (a : Act) (w : World) : Prop :=
 Fr b u o t3 t4 last added a ∧ St w0 b u o t3 t4 lv se mi ho dom mo dow loc w (x + 62135596800)
def LoopQ (w0 : World) (b u o t3 t4 : Nat) (lv : Value) (se mi ho dom mo dow : Int) (loc : Option Addr) (first last x0 : Int) (E : Int → Prop) : Exit → Act → World → Prop
 | .normal, a, w => ∃ (added : Bool) (x : Int), Inv w0 b u o t3 t4 lv se mi ho dom mo dow loc last added x a w ∧ Pl (fOf se mi ho dom mo dow) first last added x ∧ x0 ≤ x ∧ Cal.Y (x / 86400) ≤ last ∧ E x
 | .goto 0, a, w => ∃ x : Int, Inv w0 b u o t3 t4 lv se mi ho dom mo dow loc last true x a w ∧ Pl (fOf se mi ho dom mo dow) first last true x ∧ x0 < x
 | _, _, _ => False
def TailQ (w0 : World) (b u o t3 t4 : Nat) (lv : Value) (se mi ho dom mo dow : Int) (loc : Option Addr) (last : Int) (y : Int) (wrap : Bool) : Exit → Act → World → Prop
 | .normal, a, w => wrap = false ∧ Inv w0 b u o t3 t4 lv se mi ho dom mo dow loc last true y a w
 | .goto 0, a, w => wrap = true ∧ Inv w0 b u o t3 t4 lv se mi ho dom mo dow loc last true y a w
 | _, _, _ => False
theorem loop_gen {cid bid : Nat} {Rt Rn Ra Rr tail : Code} {tt tn : Tmp} {first x0 : Int} (hlast : last ≤ 27390)
  (C : Int → Prop) (E : Int → Bool) (st n : Int → Int) (wrap : Int → Bool)
  (hT : ∀ added x a w, -62135596800 ≤ x → x ≤ 900000000000 → Inv w0 b u o t3 t4 lv se mi ho dom mo dow loc last added x a w →
   Rt.wp P (Exit.then (fun a' w' => Inv w0 b u o t3 t4 lv se mi ho dom mo dow loc last added x a' w' ∧ a'.tmps.getD tt undef = .bool (!(E x))) (fun _ _ _ => False)) a w)
  (hN : ∀ added x a w, Inv w0 b u o t3 t4 lv se mi ho dom mo dow loc last added x a w →
   Rn.wp P (Exit.then (fun a' w' => Inv w0 b u o t3 t4 lv se mi ho dom mo dow loc last added x a' w' ∧ a'.tmps.getD tn undef = .bool (!added)) (fun _ _ _ => False)) a w)
  (hA : ∀ x a w, Inv w0 b u o t3 t4 lv se mi ho dom mo dow loc last false x a w →
   Ra.wp P (Exit.then (fun a' w' => Inv w0 b u o t3 t4 lv se mi ho dom mo dow loc last true x a' w') (fun _ _ _ => False)) a w)
  (hR : ∀ x a w, -62135596800 ≤ x → x ≤ 900000000000 → Inv w0 b u o t3 t4 lv se mi ho dom mo dow loc last true x a w →
   Rr.wp P (Exit.then (fun a' w' => Inv w0 b u o t3 t4 lv se mi ho dom mo dow loc last true (st x) a' w') (fun _ _ _ => False)) a w)
  (hS : ∀ x a w, -62135596800 ≤ x → x ≤ 900000000000 → E x = false → Cal.Y (x / 86400) ≤ last → Inv w0 b u o t3 t4 lv se mi ho dom mo dow loc last true (st x) a w →
   tail.wp P (TailQ w0 b u o t3 t4 lv se mi ho dom mo dow loc last (n x) (wrap (n x))) a w)
  (hst : ∀ x, Cal.Al (fOf se mi ho dom mo dow) x → E x = false → st x = x)
  (hnx : ∀ x, -62135596800 ≤ x → x ≤ 900000000000 → E x = false → x < n x)
  (hnb : ∀ x, -62135596800 ≤ x → Cal.Y (x / 86400) ≤ last → n x ≤ 900000000000)
  (hq : ∀ x, -62135596800 ≤ x → C x → E x = false → Cal.Quiet (fOf se mi ho dom mo dow) x (n x))
  (hal : ∀ x, -62135596800 ≤ x → C x → E x = false → Cal.Al (fOf se mi ho dom mo dow) (n x))
  (hC : ∀ x, -62135596800 ≤ x → C x → E x = false → wrap (n x) = false → C (n x) ∧ Cal.Y (n x / 86400) = Cal.Y (x / 86400))
  {a : Act} {w : World} (h : ∃ (added : Bool) (x : Int), Inv w0 b u o t3 t4 lv se mi ho dom mo dow loc last added x a w ∧ Pl (fOf se mi ho dom mo dow) first last added x ∧ x0 ≤ x ∧ Cal.Y (x / 86400) ≤ last ∧ C x) :
  (Code.block cid (.loop (.seq (.seq Rt (.cond (.tmp tt) .skip (.exit cid))) (.block bid (.seq (.seq Rn (.cond (.tmp tn) (.seq Ra Rr) .skip)) tail))))).wp P
   (LoopQ w0 b u o t3 t4 lv se mi ho dom mo dow loc first last x0 (fun x => C x ∧ E x = true)) a w := by
 refine wp_block ?_
 refine wp_loop (fun a w => ∃ (added : Bool) (x : Int), Inv w0 b u o t3 t4 lv se mi ho dom mo dow loc last added x a w ∧ Pl (fOf se mi ho dom mo dow) first last added x ∧ x0 ≤ x ∧ Cal.Y (x / 86400) ≤ last ∧ C x)
  (fun _ w => (962135596800 - secOf t3 w).toNat) h ?_
 rintro a w ⟨added, x, hi, hp, hx0, hy, hc⟩
 have hxa : -62135596800 ≤ x := by have := hp.lo; have := hp.from_; omega
 have hxb : x ≤ 900000000000 := hp.hi
 refine wp_seq (wp_seq (wp_mono (hT added x a w hxa hxb hi) ?_))
 rintro e a1 w1 hq1
 cases e <;> try exact False.elim hq1
 obtain ⟨hi1, ht1⟩ := hq1
 cases hE : E x with
 | true =>
  rw [hE] at ht1
  refine wp_cond_false ht1 (wp_exit ?_)
  show (if cid = cid then _ else _)
  rw [if_pos rfl]
  exact ⟨added, x, hi1, hp, hx0, hy, hc, hE⟩
 | false =>
  rw [hE] at ht1
  refine wp_cond_true ht1 (wp_skip ?_)
  show Code.wp _ _ _ _ _
  refine wp_block (wp_seq (wp_seq (wp_mono (hN added x a1 w1 hi1) ?_)))
  rintro e a2 w2 hq2
  cases e <;> try exact False.elim hq2
  obtain ⟨hi2, ht2⟩ := hq2
  have hxn := hnx x hxa hxb hE
  have hnb' := hnb x hxa hy
  have hpn : Pl (fOf se mi ho dom mo dow) first last true (n x) :=
   ⟨by have := hp.from_; omega, hp.lo, hnb', hp.quiet.trans (hq x hxa hc hE), fun _ => hal x hxa hc hE⟩
  have key : ∀ a3 w3, Inv w0 b u o t3 t4 lv se mi ho dom mo dow loc last true (st x) a3 w3 →
    tail.wp P (Exit.inBlock bid (Exit.then (fun a' w' => (∃ (added : Bool) (x : Int), Inv w0 b u o t3 t4 lv se mi ho dom mo dow loc last added x a' w' ∧ Pl (fOf se mi ho dom mo dow) first last added x ∧ x0 ≤ x ∧ Cal.Y (x / 86400) ≤ last ∧ C x) ∧
     (962135596800 - secOf t3 w').toNat < (962135596800 - secOf t3 w).toNat) (Exit.inBlock cid (LoopQ w0 b u o t3 t4 lv se mi ho dom mo dow loc first last x0 (fun x => C x ∧ E x = true))))) a3 w3 := by
   intro a3 w3 hi3
   refine wp_mono (hS x a3 w3 hxa hxb hE hy hi3) ?_
   rintro e a4 w4 hq4
   cases e with
   | normal =>
    obtain ⟨hw4, hi4⟩ := hq4
    have hcn := hC x hxa hc hE hw4
    refine ⟨⟨true, n x, hi4, hpn, by omega, by rw [hcn.2]; exact hy, hcn.1⟩, ?_⟩
    rw [secOf_eq hi4.2.t, secOf_eq hi.2.t]
    omega
   | goto l =>
    cases l with
    | zero => exact ⟨n x, hq4.2, hpn, by omega⟩
    | succ l => exact False.elim hq4
   | exit l => exact False.elim hq4
   | ret => exact False.elim hq4
   | panic c => exact False.elim hq4
   | outgrown => exact False.elim hq4
  cases added with
  | true =>
   refine wp_cond_false ht2 (wp_skip ?_)
   have hst' := hst x (hp.al rfl) hE
   exact key a2 w2 (by rw [hst']; exact hi2)
  | false =>
   refine wp_cond_true ht2 (wp_seq (wp_mono (hA x a2 w2 hi2) ?_))
   rintro e a3 w3 hq3
   cases e <;> try exact False.elim hq3
   refine wp_mono (hR x a3 w3 hxa hxb hq3) ?_
   rintro e a4 w4 hq4
   cases e <;> try exact False.elim hq4
   exact key a4 w4 hq4
end
end Go.Proofs.YtcjdideliifkhaaGreatDoor
