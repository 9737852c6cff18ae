import Derived.Test.YtcjdideliifkhaaGreatDoorB43
set_option maxRecDepth 100000
set_option maxHeartbeats 16000000
namespace Go.Proofs.YtcjdideliifkhaaGreatDoor
open Go.RowKit Go.Maps Go.Proofs.YtcjdideliifkhaaGreatDoorW.PrintWords Go.Proofs.YtcjdideliifkhaaGreatDoorW.PrintLast Go.Proofs.YtcjdideliifkhaaGreatDoorW.PrintMore PFnCronTextAfterAnywhere
open Mrg (Sts upd mergeL leastL)
set_option linter.unusedVariables false
set_option linter.unusedSimpArgs false
def EvB (w : World) (A : Option Addr) (E : List (Nat × Int)) : Prop := E = [] ∨ ∃ g, ∃ cur : Array Value, A = some ⟨g, 0, none⟩ ∧ w.heap[g]? = some (.cells cur 66 (0, 0)) ∧ ∀ i (h : i < E.length), cur[i * 3]? = some (.int .i64 ((E[i]).1 : Int)) ∧ cur[i * 3 + 1]? = some (.int .i64 (E[i]).2) ∧ cur[i * 3 + 2]? = some (.int .i64 0)
theorem EvB.goes {w w' : World} {A : Option Addr} {E : List (Nat × Int)} (h : EvB w A E) (hb : Below w.heap.size w w') : EvB w' A E := by
 rcases h with h | ⟨g, cur, h1, h2, h3⟩
 ·exact .inl h
 ·exact .inr ⟨g, cur, h1, blk_below h2 hb, h3⟩
theorem EvB.far {w : World} {A : Option Addr} {E : List (Nat × Int)} (h : EvB w A E) {p : Addr} {cs : Array Value} {t : TypeId} (hp : w.heap[p.block]? = some (.cells cs t (0, 0))) (ht : t ≠ 66) (u : Value) : EvB (w.setCell p u) A E := by
 rcases h with h | ⟨g, cur, h1, h2, h3⟩
 ·exact .inl h
 ·have hne : g ≠ p.block := fun e => by subst e; rw [h2] at hp; cases hp; exact ht rfl
  exact .inr ⟨g, cur, h1, blk_far h2 hne u, h3⟩
theorem EvB.at {w : World} {A : Option Addr} {E : List (Nat × Int)} (h : EvB w A E) (i : Nat) (hi : i < E.length) : ∃ g, A = some ⟨g, 0, none⟩ ∧ w.cell? ⟨g, i * 3, none⟩ = some (.int .i64 ((E[i]).1 : Int)) ∧ w.cell? ⟨g, i * 3 + 1, none⟩ = some (.int .i64 (E[i]).2) ∧ w.cell? ⟨g, i * 3 + 2, none⟩ = some (.int .i64 0) := by
 rcases h with h | ⟨g, cur, h1, h2, h3⟩
 ·rw [h] at hi; cases hi
 ·obtain ⟨a, b, c⟩ := h3 i hi
  exact ⟨g, h1, (blk_cell h2 _).trans a, (blk_cell h2 _).trans b, (blk_cell h2 _).trans c⟩
theorem RowN.evs {w0 w : World} {v : Value} {E : List (Nat × Int)} (h : RowN w0 w 66 3 v (E.map evCells)) : ∃ A c, v = .slice A E.length c ∧ EvB w A E := by
 by_cases he : E = []
 ·obtain ⟨A, c, e⟩ := h.isSlice
  rw [List.length_map] at e
  exact ⟨A, c, e, .inl he⟩
 ·obtain ⟨g, c, cur, h1, h0, h2, h3⟩ := h.block (fun e => he (List.map_eq_nil_iff.1 e))
  rw [List.length_map] at h1
  refine ⟨some ⟨g, 0, none⟩, c, h1, .inr ⟨g, cur, rfl, h2, fun i hi => ?_⟩⟩
  have hi' : i < (E.map evCells).length := by simpa using hi
  have a := h3 i 0 hi' (by decide)
  have b := h3 i 1 hi' (by decide)
  have c := h3 i 2 hi' (by decide)
  rw [List.getElem_map] at a b c
  exact ⟨a, b, c⟩
structure LwX (w0 w : World) (s ns : Int) (gM gA gZ n : Nat) (ms : List CMean) (y : Sts) (css : List (List Value)) (vs : Value) (A : Option Addr) (E : List (Nat × Int)) : Prop where
 u : LwU w0 w s ns gM gA gZ n n n ms y y css vs
 e : EvB w A E
theorem LwX.goes {w0 w w' : World} {s ns : Int} {gM gA gZ n : Nat} {ms : List CMean} {y : Sts} {css : List (List Value)} {vs : Value} {A : Option Addr} {E : List (Nat × Int)} (h : LwX w0 w s ns gM gA gZ n ms y css vs A E) (hb : Below w.heap.size w w') : LwX w0 w' s ns gM gA gZ n ms y css vs A E := ⟨h.u.goes hb, h.e.goes hb⟩
theorem LwX.put {w0 w : World} {s ns : Int} {gM gA gZ n : Nat} {ms : List CMean} {y : Sts} {css : List (List Value)} {vs : Value} {A : Option Addr} {E : List (Nat × Int)} (h : LwX w0 w s ns gM gA gZ n ms y css vs A E) (i : Nat) (hi : i < n) (r : Option Int) :
  LwX w0 (((w.setCell ⟨gA, i * 2, none⟩ (.int .i64 (r.getD 0))).setCell ⟨gA, i * 2 + 1, none⟩ (.int .i64 0)).setCell ⟨gZ, i, none⟩ (.bool (!r.isSome))) s ns gM gA gZ n ms (upd y i r) css vs A E := by
 obtain ⟨ca, a1, _⟩ := h.u.a
 obtain ⟨cz, z1, _⟩ := h.u.z
 obtain ⟨n1, n2, n3⟩ := h.u.ne
 have a1' := blk_set a1 (i * 2) (.int .i64 (r.getD 0))
 have z1' := blk_far (blk_far z1 (p := ⟨gA, i * 2, none⟩) (Ne.symm n1) (.int .i64 (r.getD 0))) (p := ⟨gA, i * 2 + 1, none⟩) (Ne.symm n1) (.int .i64 0)
 exact ⟨(h.u.putA i hi (fun j hj => .inl hj) r).putZ i hi (fun j hj => .inl hj) r, ((h.e.far (p := ⟨gA, i * 2, none⟩) a1 (by decide) _).far (p := ⟨gA, i * 2 + 1, none⟩) a1' (by decide) _).far (p := ⟨gZ, i, none⟩) z1' (by decide) _⟩
def nxOf (y : Sts) (i : Nat) : Nx := (secM y i, 0, !someM y i)
theorem LwU.nx {w0 w : World} {s ns : Int} {gM gA gZ n : Nat} {ms : List CMean} {y : Sts} {css : List (List Value)} {vs : Value} (h : LwU w0 w s ns gM gA gZ n n n ms y y css vs) : NxRow w gA n (nxOf y) := fun i hi => h.a.at i hi
theorem LwU.zr {w0 w : World} {s ns : Int} {gM gA gZ n : Nat} {ms : List CMean} {y : Sts} {css : List (List Value)} {vs : Value} (h : LwU w0 w s ns gM gA gZ n n n ms y y css vs) : ZrRow w gZ n (nxOf y) := fun i hi => h.z.at i hi
theorem nxOf_ok {y : Sts} {n : Nat} (hb : ∀ i, i < n → ∀ v, y i = some v → -62135596800 < v ∧ v ≤ 300000000000) : ∀ i, i < n → (nxOf y i).Ok := fun i hi h => by
 have hs : someM y i = true := by simpa [nxOf] using h
 obtain ⟨v, hv⟩ := Option.isSome_iff_exists.1 hs
 have := hb i hi v hv
 have e : (nxOf y i).1 = v := by show secM y i = v; unfold secM; rw [hv]; rfl
 rw [e]
 exact ⟨Int.le_refl _, (by decide : (0 : Int) < 1000000000), by omega, by omega⟩
theorem nxOf_none {y : Sts} {i : Nat} (h : y i = none) : (nxOf y i).tm = (0, 0) := by
 unfold Nx.tm nxOf someM; rw [h]; rfl
theorem nxOf_some {y : Sts} {i : Nat} {v : Int} (h : y i = some v) : (nxOf y i).tm = (0, v + 62135596800) := by
 unfold Nx.tm nxOf someM secM; rw [h]; rfl
theorem first_least {y : Sts} {n k : Nat} {T : Int} (hb : ∀ i, i < n → ∀ v, y i = some v → -62135596800 < v ∧ v ≤ 300000000000) (hk : k < n) (hl : ∀ j, j < n → lessT (nxOf y j).tm (nxOf y k).tm = false) (hex : ∃ j, j < n ∧ y j = some T) (hmin : ∀ j, j < n → ∀ v, y j = some v → T ≤ v) : y k = some T := by
 obtain ⟨j, hj, hy⟩ := hex
 have h1 := hl j hj
 have h2 := (hb j hj T hy).1
 rw [nxOf_some hy] at h1
 cases hk' : y k with
 | none =>
  rw [nxOf_none hk'] at h1
  unfold lessT zeroT befL at h1
  simp only [Bool.and_eq_false_iff, Bool.not_eq_false', Bool.or_eq_false_iff, decide_eq_true_eq, decide_eq_false_iff_not] at h1
  simp only [true_and, and_self, not_true, false_and, or_false] at h1
  exfalso
  omega
 | some v =>
  have h3 := hmin k hk v hk'
  rw [nxOf_some hk'] at h1
  unfold lessT zeroT befL at h1
  simp only [Bool.and_eq_false_iff, Bool.not_eq_false', Bool.or_eq_false_iff, decide_eq_true_eq, decide_eq_false_iff_not] at h1
  have : v = T := by omega
  rw [this]
theorem nxtM_bound {ms : List CMean} (hd : ∀ m ∈ ms, DelOk m) {i : Nat} {s v : Int} (h : nxtM ms i s = some v) : s + 1 ≤ v ∧ v ≤ s + 4611686019 := by
 unfold nxtM at h
 by_cases hi : i < ms.length
 ·rw [List.getD_eq_getElem?_getD, List.getElem?_eq_getElem hi] at h
  exact nextR_bound (hd _ (List.getElem_mem hi)) h
 ·rw [List.getD_eq_getElem?_getD, List.getElem?_eq_none (by omega)] at h
  exact nextR_bound (fun e => by cases e) h
theorem later_nxtM {ms : List CMean} (hd : ∀ m ∈ ms, DelOk m) : Mrg.Later (nxtM ms) := fun i t v h => by
 have := nxtM_bound hd h; omega
structure BoxT (W5 : World) (r : Option Int) (γ : Option Nat) (L : Nat → Prop) (w : World) : Prop where
 below : Below W5.heap.size W5 w
 ge : ∀ b, γ = some b → W5.heap.size ≤ b
 empty : ∀ b, γ = some b → ¬ L 14 → w.heap[b]? = some (.cells #[.int .i64 0, .int .i64 0] 23 (0, 0))
 full : ∀ b, γ = some b → L 14 → w.heap[b]? = some (.cells #[.int .i64 (r.getD 0), .int .i64 0] 23 (0, 0))
 l7 : L 13 → ∃ b, γ = some b
 l8 : L 14 → L 13
theorem BoxT.other {W5 : World} {r : Option Int} {γ : Option Nat} {L : Nat → Prop} {w w' : World} (h : BoxT W5 r γ L w) {n : Nat} (h7 : 13 ≠ n) (h8 : 14 ≠ n) (hb : Below w.heap.size w w') : BoxT W5 r γ (fun j => j = n ∨ L j) w' :=
 ⟨below_step h.below hb, h.ge, fun b e hn => blk_below (h.empty b e fun h => hn (.inr h)) hb, fun b e hl => blk_below (h.full b e (hl.resolve_left h8)) hb, fun hl => h.l7 (hl.resolve_left h7), fun hl => .inr (h.l8 (hl.resolve_left h8))⟩
theorem BoxT.made {W5 : World} {r : Option Int} {γ : Option Nat} {L : Nat → Prop} {w : World} (h : BoxT W5 r γ L w) (hn8 : ¬ L 14) : BoxT W5 r (some w.heap.size) (fun j => j = 13 ∨ L j) (w.alloc (.cells #[.int .i64 0, .int .i64 0] 23)) :=
 ⟨below_alloc h.below _, fun b e => by cases e; exact h.below.size, fun b e _ => by cases e; exact blk_new w _, fun b e hl => absurd (hl.resolve_left (by decide)) hn8, fun _ => ⟨_, rfl⟩, fun hl => .inl rfl⟩
theorem BoxT.put {W5 : World} {r : Option Int} {b : Nat} {L : Nat → Prop} {w : World} (h : BoxT W5 r (some b) L w) (h7 : L 13) (hn8 : ¬ L 14) : BoxT W5 r (some b) (fun j => j = 14 ∨ L j) ((w.setCell ⟨b, 0, none⟩ (.int .i64 (r.getD 0))).setCell ⟨b, 1, none⟩ (.int .i64 0)) := by
 have hbk := h.empty b rfl hn8
 have q0 := blk_put hbk 0 (.int .i64 (r.getD 0)) (cs' := #[.int .i64 (r.getD 0), .int .i64 0]) rfl
 have q1 := blk_put q0 1 (.int .i64 0) (cs' := #[.int .i64 (r.getD 0), .int .i64 0]) rfl
 exact ⟨below_set (below_set h.below (h.ge b rfl)) (h.ge b rfl), h.ge, fun b' e hn => absurd (.inl rfl) hn, fun b' e _ => by cases e; exact q1, fun _ => ⟨b, rfl⟩, fun _ => .inr h7⟩
def BoxW (g9 gA n f c9 : Nat) (cs : Array Value) (T : Int) (r : Option Int) (γ : Option Nat) (j : Nat) (v : Value) (w : World) : Prop :=
 match j with
 | 0 => v = .slice (some ⟨g9, 0, none⟩) n c9
 | 1 => v = .int .i64 (f : Int)
 | 2 => v = .pointer (some ⟨g9, f * 8, none⟩)
 | 3 => v = .agg cs
 | 4 => v = .slice (some ⟨gA, 0, none⟩) n n
 | 5 => v = .int .i64 (f : Int)
 | 6 => v = .pointer (some ⟨gA, f * 2, none⟩)
 | 7 => v = .agg #[.int .i64 T, .int .i64 0]
 | 8 => v = zUTC
 | 9 => v = .tuple #[.agg #[.int .i64 (r.getD 0), .int .i64 0], .bool r.isSome]
 | 10 => v = .tuple #[.agg #[.int .i64 (r.getD 0), .int .i64 0], .bool r.isSome]
 | 11 => v = .agg #[.int .i64 (r.getD 0), .int .i64 0]
 | 12 => v = .bool r.isSome
 | 13 => ∃ b, γ = some b ∧ v = .pointer (some ⟨b, 0, none⟩)
 | _ => True
theorem BoxW.more {g9 gA n f c9 : Nat} {cs : Array Value} {T : Int} {r : Option Int} {γ : Option Nat} {b : Nat} {j : Nat} {v : Value} {w w' : World} (hj : j ≠ 13) (h : BoxW g9 gA n f c9 cs T r γ j v w) : BoxW g9 gA n f c9 cs T r (some b) j v w' := by
 match j, hj, h with
 | 0, _, h => exact h
 | 1, _, h => exact h
 | 2, _, h => exact h
 | 3, _, h => exact h
 | 4, _, h => exact h
 | 5, _, h => exact h
 | 6, _, h => exact h
 | 7, _, h => exact h
 | 8, _, h => exact h
 | 9, _, h => exact h
 | 10, _, h => exact h
 | 11, _, h => exact h
 | 12, _, h => exact h
 | 13, hj, _ => exact absurd rfl hj
 | _ + 14, _, h => exact h
theorem BoxW.any {g9 gA n f c9 : Nat} {cs : Array Value} {T : Int} {r : Option Int} {γ : Option Nat} {j : Nat} {v : Value} {w w' : World} (h : BoxW g9 gA n f c9 cs T r γ j v w) : BoxW g9 gA n f c9 cs T r γ j v w' := by
 match j, h with
 | 0, h => exact h
 | 1, h => exact h
 | 2, h => exact h
 | 3, h => exact h
 | 4, h => exact h
 | 5, h => exact h
 | 6, h => exact h
 | 7, h => exact h
 | 8, h => exact h
 | 9, h => exact h
 | 10, h => exact h
 | 11, h => exact h
 | 12, h => exact h
 | 13, h => exact h
 | _ + 14, h => exact h
theorem LwU.sched {w0 w : World} {s ns : Int} {gM gA gZ n kA kZ : Nat} {ms : List CMean} {x y : Sts} {css : List (List Value)} {g9 n9 c9 : Nat} (h : LwU w0 w s ns gM gA gZ n kA kZ ms x y css (.slice (some ⟨g9, 0, none⟩) n9 c9)) (f : Nat) (hf : f < css.length) {v0 v1 v2 v3 v4 v5 v6 v7 : Value} (hs : css[f] = [v0, v1, v2, v3, v4, v5, v6, v7]) :
  w.cell? ⟨g9, f * 8, none⟩ = some v0 ∧ w.cell? ⟨g9, f * 8 + 1, none⟩ = some v1 ∧ w.cell? ⟨g9, f * 8 + 2, none⟩ = some v2 ∧ w.cell? ⟨g9, f * 8 + 3, none⟩ = some v3 ∧ w.cell? ⟨g9, f * 8 + 4, none⟩ = some v4 ∧ w.cell? ⟨g9, f * 8 + 5, none⟩ = some v5 ∧ w.cell? ⟨g9, f * 8 + 6, none⟩ = some v6 ∧ w.cell? ⟨g9, f * 8 + 7, none⟩ = some v7 := by
 obtain ⟨g, c, e, -, hc⟩ := h.row.cells (fun e => by rw [e] at hf; cases hf)
 have e1 : g9 = g := by injection e with e _ _; injection e with e; injection e
 subst e1
 exact ⟨(hc f 0 hf (by decide)).trans (by rw [hs]; rfl), (hc f 1 hf (by decide)).trans (by rw [hs]; rfl), (hc f 2 hf (by decide)).trans (by rw [hs]; rfl), (hc f 3 hf (by decide)).trans (by rw [hs]; rfl), (hc f 4 hf (by decide)).trans (by rw [hs]; rfl), (hc f 5 hf (by decide)).trans (by rw [hs]; rfl), (hc f 6 hf (by decide)).trans (by rw [hs]; rfl), (hc f 7 hf (by decide)).trans (by rw [hs]; rfl)⟩
end Go.Proofs.YtcjdideliifkhaaGreatDoor
