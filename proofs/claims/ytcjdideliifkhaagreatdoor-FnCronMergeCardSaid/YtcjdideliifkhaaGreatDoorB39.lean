import Derived.Shelf.GgSortMore.Iface
import Derived.Shelf.Lay
import Derived.Test.YtcjdideliifkhaaGreatDoorB38
set_option maxRecDepth 100000
set_option maxHeartbeats 16000000
namespace Go.Proofs.YtcjdideliifkhaaGreatDoor
open Go.RowKit Go.Maps Go.Proofs.YtcjdideliifkhaaGreatDoorW.PrintWords Go.Proofs.YtcjdideliifkhaaGreatDoorW.PrintLast Go.Proofs.YtcjdideliifkhaaGreatDoorW.PrintMore PFnCronTextAfterAnywhere
set_option linter.unusedVariables false
set_option linter.unusedSimpArgs false
theorem schedule_c (m : CMean) (cs : Array Value) (h : PlainS m cs) (w : World) :
  Calls Tryz.prog 38 #[.agg cs, .pointer none] w fun e w' => (∃ sv, e = .returned sv ∧ SchedR w' m none sv) ∧ Below w.heap.size w w' := by
 have hu59 := Tryz.underlying59
 rcases h with ⟨hev, n0, n1, n2, n3, n4, n5, rfl, f0, f1, f2, f3, f4, f5⟩ | ⟨hev, rfl⟩
 ·go_enter Tryz.func38, Tryz.ntmps38
  go_wp2
  go_ret
  have h1 := spec_new (w.alloc (.cells #[.bool false, .int .i64 0, .int .u64 n0, .int .u64 n1, .int .u64 n2, .int .u64 n3, .int .u64 n4, .int .u64 n5] 59)) n0 n1 n2 n3 n4 n5 none
  rw [show ∀ o, (w.alloc o).heap.size = w.heap.size + 1 from fun o => by simp] at h1
  exact ⟨⟨_, rfl, .inl ⟨hev, _, n0, n1, n2, n3, n4, n5, rfl, h1, f0, f1, f2, f3, f4, f5⟩⟩, below_alloc (below_alloc (Below.refl _ _) _) _⟩
 ·go_enter Tryz.func38, Tryz.ntmps38
  go_wp2
  go_ret
  exact ⟨⟨_, rfl, .inr ⟨hev, rfl⟩⟩, below_alloc (Below.refl _ _) _⟩
structure NxM (w : World) (cs : Array Value) (s ns : Int) (W : World) : Prop where
 sch : W.heap[w.heap.size]? = some (.cells cs 59 (0, 0))
 inst : W.heap[w.heap.size + 1]? = some (.cells #[.int .i64 s, .int .i64 ns] 23 (0, 0))
 zone : W.heap[w.heap.size + 1 + 1]? = some (.cells #[.slice none 0 0, .slice none 0 0, .slice none 0 0, .slice none 0 0] 28 (0, 0))
 res : W.heap[w.heap.size + 1 + 1 + 1]? = some (.cells #[.int .i64 0, .int .i64 0] 23 (0, 0))
theorem NxM.goes {w : World} {cs : Array Value} {s ns : Int} {W W' : World} (h : NxM w cs s ns W) (hb : Below W.heap.size W W') : NxM w cs s ns W' :=
 ⟨blk_below h.sch hb, blk_below h.inst hb, blk_below h.zone hb, blk_below h.res hb⟩
structure NxG where
 done : Bool
 sv : Option Value
 r : Option (Option Int)
structure NiR (w : World) (cs : Array Value) (s ns : Int) (m : CMean) (γ : NxG) (L : Nat → Prop) (W : World) : Prop where
 below : Below w.heap.size w W
 ahead : γ.done = false → NxM w cs s ns W
 behind : γ.done = true → ∃ r, γ.r = some r ∧ W.heap[w.heap.size + 1 + 1 + 1]? = some (.cells #[.int .i64 (r.getD 0), .int .i64 0] 23 (0, 0))
 done : γ.done = true ↔ L 13
 sv : ∀ v, γ.sv = some v → L 1 ∧ (γ.done = false → SchedR W m none v)
 r : ∀ r, γ.r = some r → NxR m s r ∧ L 9
def NiV (cs : Array Value) (s ns : Int) (γ : NxG) (j : Nat) (v : Value) (w : World) : Prop :=
 match j with
 | 0 => v = .agg cs
 | 1 => γ.sv = some v
 | 2 => v = .agg #[.int .i64 s, .int .i64 ns]
 | 3 => v = zUTC
 | 4 => γ.done = false → ∃ o, v = .pointer (some ⟨o, 0, none⟩) ∧ IsUTC w o
 | 5 => v = tm ns (s + 62135596800) (.pointer none)
 | 6 => ∃ sv, γ.sv = some sv ∧ v = .func (.method "Next") #[sv] #[]
 | 8 => γ.sv = some v
 | 9 => ∃ r p, γ.r = some r ∧ v = (match r with | some x => tm 0 (x + 62135596800) (.pointer p) | none => tm 0 0 (.pointer p))
 | 10 => ∃ r : Option Int, γ.r = some r ∧ v = .tuple #[.agg #[.int .i64 (r.getD 0), .int .i64 0], .bool r.isSome]
 | 11 => ∃ r : Option Int, γ.r = some r ∧ v = .agg #[.int .i64 (r.getD 0), .int .i64 0]
 | 12 => ∃ r : Option Int, γ.r = some r ∧ v = .bool r.isSome
 | _ => True
theorem NiR.goes {w : World} {cs : Array Value} {s ns : Int} {m : CMean} {γ : NxG} {L : Nat → Prop} {W W' : World} (h : NiR w cs s ns m γ L W) (hb : Below W.heap.size W W') : NiR w cs s ns m γ L W' :=
 ⟨below_step h.below hb, fun e => (h.ahead e).goes hb, fun e => by
  obtain ⟨r, h1, h2⟩ := h.behind e
  exact ⟨r, h1, blk_below h2 hb⟩, h.done, fun v e => ⟨(h.sv v e).1, fun d => ((h.sv v e).2 d).below hb⟩, h.r⟩
theorem NiR.other {w : World} {cs : Array Value} {s ns : Int} {m : CMean} {γ : NxG} {L : Nat → Prop} {W : World} (h : NiR w cs s ns m γ L W) {n : Nat} (hn : 13 ≠ n) : NiR w cs s ns m γ (fun j => j = n ∨ L j) W :=
 ⟨h.below, h.ahead, h.behind, ⟨fun e => .inr (h.done.1 e), fun e => h.done.2 (e.resolve_left hn)⟩, fun v e => ⟨.inr (h.sv v e).1, (h.sv v e).2⟩, fun r hr => ⟨(h.r r hr).1, .inr (h.r r hr).2⟩⟩
theorem NiR.answer {w : World} {cs : Array Value} {s ns : Int} {m : CMean} {γ : NxG} {L : Nat → Prop} {W W' : World} (h : NiR w cs s ns m γ L W) (hb : Below W.heap.size W W') (hrn : γ.r = none) {x : Option Int} (hx : NxR m s x) : NiR w cs s ns m ⟨γ.done, γ.sv, some x⟩ (fun j => j = 9 ∨ L j) W' := by
 have h' := (h.goes hb).other (n := 9) (by decide)
 refine ⟨h'.below, h'.ahead, fun e => ?_, h'.done, h'.sv, ?_⟩
 ·obtain ⟨r, h1, _⟩ := h.behind e
  rw [hrn] at h1; cases h1
 intro r hr
 cases hr
 exact ⟨hx, .inl rfl⟩
theorem NiR.made {w : World} {cs : Array Value} {s ns : Int} {m : CMean} {γ : NxG} {L : Nat → Prop} {W W' : World} (h : NiR w cs s ns m γ L W) (hb : Below W.heap.size W W') {v : Value} (hv : SchedR W' m none v) : NiR w cs s ns m ⟨γ.done, some v, γ.r⟩ (fun j => j = 1 ∨ L j) W' := by
 have h' := (h.goes hb).other (n := 1) (by decide)
 exact ⟨h'.below, h'.ahead, h'.behind, h'.done, fun v' e => by cases e; exact ⟨.inl rfl, fun _ => hv⟩, h'.r⟩
theorem NiV.keep {cs : Array Value} {s ns : Int} {γ : NxG} {j : Nat} {v : Value} {w w' : World} (hb : Below w.heap.size w w') (h : NiV cs s ns γ j v w) : NiV cs s ns γ j v w' := by
 match j, h with
 | 0, h => exact h
 | 1, h => exact h
 | 2, h => exact h
 | 3, h => exact h
 | 4, h => exact fun e => (h e).imp fun o ⟨h1, h2⟩ => ⟨h1, h2.below hb⟩
 | 5, h => exact h
 | 6, h => exact h
 | 7, h => exact h
 | 8, h => exact h
 | 9, h => exact h
 | 10, h => exact h
 | 11, h => exact h
 | 12, h => exact h
 | n + 13, h => exact h
theorem NiV.answer {cs : Array Value} {s ns : Int} {γ : NxG} {j : Nat} {v : Value} {w w' : World} (hb : Below w.heap.size w w') (hrn : γ.r = none) {x : Option Int} (h : NiV cs s ns γ j v w) : NiV cs s ns ⟨γ.done, γ.sv, some x⟩ j v w' := by
 have no : ∀ {r : Option Int} {X : Prop}, γ.r = some r → X := fun e => by rw [hrn] at e; cases e
 have h' := NiV.keep hb h
 match j, h' with
 | 0, h => exact h
 | 1, h => exact h
 | 2, h => exact h
 | 3, h => exact h
 | 4, h => exact h
 | 5, h => exact h
 | 6, h => exact h
 | 7, h => exact h
 | 8, h => exact h
 | 9, ⟨r, p, h, _⟩ => exact no h
 | 10, ⟨r, h, _⟩ => exact no h
 | 11, ⟨r, h, _⟩ => exact no h
 | 12, ⟨r, h, _⟩ => exact no h
 | n + 13, h => exact h
theorem NiV.made {cs : Array Value} {s ns : Int} {γ : NxG} {j : Nat} {v : Value} {w w' : World} (hb : Below w.heap.size w w') (hsn : γ.sv = none) {x : Value} (h : NiV cs s ns γ j v w) : NiV cs s ns ⟨γ.done, some x, γ.r⟩ j v w' := by
 have no : ∀ {r : Value} {X : Prop}, γ.sv = some r → X := fun e => by rw [hsn] at e; cases e
 have h' := NiV.keep hb h
 match j, h' with
 | 0, h => exact h
 | 1, h => exact no h
 | 2, h => exact h
 | 3, h => exact h
 | 4, h => exact h
 | 5, h => exact h
 | 6, ⟨r, h, _⟩ => exact no h
 | 7, h => exact h
 | 8, h => exact no h
 | 9, h => exact h
 | 10, h => exact h
 | 11, h => exact h
 | 12, h => exact h
 | n + 13, h => exact h
theorem NiV.over {cs : Array Value} {s ns : Int} {γ : NxG} {j : Nat} {v : Value} {w w' : World} (h : NiV cs s ns γ j v w) : NiV cs s ns ⟨true, γ.sv, γ.r⟩ j v w' := by
 match j, h with
 | 0, h => exact h
 | 1, h => exact h
 | 2, h => exact h
 | 3, h => exact h
 | 4, h => exact fun e => (by cases e)
 | 5, h => exact h
 | 6, h => exact h
 | 7, h => exact h
 | 8, h => exact h
 | 9, h => exact h
 | 10, h => exact h
 | 11, h => exact h
 | 12, h => exact h
 | n + 13, h => exact h
theorem implNext_c (m : CMean) (hdl : DelOk m) (cs : Array Value) (h : PlainS m cs) (s ns : Int) (h0 : -62135596800 ≤ s) (h1 : s ≤ 700000000000) (n0 : 0 ≤ ns) (n1 : ns < 1000000000) (w : World) :
  Calls Tryz.prog 18 #[.agg cs, .agg #[.int .i64 s, .int .i64 ns], zUTC] w fun e w' => (∃ r, NxR m s r ∧ e = .returned (lwT r)) ∧ Below w.heap.size w w' := by
 have HP := Lib.hid h
 have HSH := Lib.hid h.shape
 have HDL := Lib.hid hdl
 have hcsz : cs.size = 8 := by obtain ⟨b, d, k0, k1, k2, k3, k4, k5, rfl⟩ := h.shape; rfl
 have hu59 := Tryz.underlying59
 have hu23 := Tryz.underlying23
 have hu28 := Tryz.underlying28
 clear h hdl
 go_enter Tryz.func18, Tryz.ntmps18
 go_upto_region 1 with (fail)
 have hM : NxM w cs s ns ((((w.alloc (.cells cs 59)).alloc (.cells #[.int .i64 s, .int .i64 ns] 23)).alloc (.cells #[.slice none 0 0, .slice none 0 0, .slice none 0 0, .slice none 0 0] 28)).alloc (.cells #[.int .i64 0, .int .i64 0] 23)) := by
  have g0 := blk_new w (.cells cs 59)
  have g1 := blk_new (w.alloc (.cells cs 59)) (.cells #[.int .i64 s, .int .i64 ns] 23)
  have g2 := blk_new ((w.alloc (.cells cs 59)).alloc (.cells #[.int .i64 s, .int .i64 ns] 23)) (.cells #[.slice none 0 0, .slice none 0 0, .slice none 0 0, .slice none 0 0] 28)
  have g3 := blk_new (((w.alloc (.cells cs 59)).alloc (.cells #[.int .i64 s, .int .i64 ns] 23)).alloc (.cells #[.slice none 0 0, .slice none 0 0, .slice none 0 0, .slice none 0 0] 28)) (.cells #[.int .i64 0, .int .i64 0] 23)
  have hz : ∀ (W : World) o, (W.alloc o).heap.size = W.heap.size + 1 := fun W o => by simp
  rw [hz] at g1
  rw [hz, hz] at g2
  rw [hz, hz, hz] at g3
  exact ⟨blk_alloc (blk_alloc (blk_alloc g0 _) _) _, blk_alloc (blk_alloc g1 _) _, blk_alloc g2 _, g3⟩
 have HMB := Lib.hid (And.intro hM (below_alloc (below_alloc (below_alloc (below_alloc (Below.refl w.heap.size w) (.cells cs 59)) (.cells #[.int .i64 s, .int .i64 ns] 23)) (.cells #[.slice none 0 0, .slice none 0 0, .slice none 0 0, .slice none 0 0] 28)) (.cells #[.int .i64 0, .int .i64 0] 23)))
 clear hM
 generalize (((w.alloc (Obj.cells cs 59)).alloc (Obj.cells #[.int .i64 s, .int .i64 ns] 23)).alloc (Obj.cells #[.slice none 0 0, .slice none 0 0, .slice none 0 0, .slice none 0 0] 28)).alloc (Obj.cells #[.int .i64 0, .int .i64 0] 23) = W at *
 refine wp_region_ghost (by kernel_rfl) 21 rfl 14 (NiV cs s ns) (NiR w cs s ns m) ⟨false, none, none⟩ (by kernel_rfl) (by kernel_rfl) (by kernel_rfl) (by kernel_rfl) (by kernel_rfl) ?_ ?_ ?_
 ·exact (show NiR w cs s ns m ⟨false, none, none⟩ (fun _ => False) W from ⟨HMB.out.2, fun _ => HMB.out.1, fun e => (by cases e), ⟨fun e => (by cases e), fun e => e.elim⟩, fun v e => (by cases e), fun r e => (by cases e)⟩).goes (Below.refl _ _).drew
 ·refine ⟨fun _ γ a w1 L hs' hA hnL hd hcl hO => ?_, fun _ γ a w1 L hs' hA hnL hd hcl hO => ?_, fun _ γ a w1 L hs' hA hnL hd hcl hO => ?_, fun _ γ a w1 L hs' hA hnL hd hcl hO => ?_, fun _ γ a w1 L hs' hA hnL hd hcl hO => ?_, fun _ γ a w1 L hs' hA hnL hd hcl hO => ?_, fun _ γ a w1 L hs' hA hnL hd hcl hO => ?_, fun _ γ a w1 L hs' hA hnL hd hcl hO => ?_, fun _ γ a w1 L hs' hA hnL hd hcl hO => ?_, fun _ γ a w1 L hs' hA hnL hd hcl hO => ?_, fun _ γ a w1 L hs' hA hnL hd hcl hO => ?_, fun _ γ a w1 L hs' hA hnL hd hcl hO => ?_, fun _ γ a w1 L hs' hA hnL hd hcl hO => ?_, fun _ γ a w1 L hs' hA hnL hd hcl hO => ?_, fun h => absurd rfl h, trivial⟩
  ·have e3 : a.tmps.getD 3 undef = .pointer (some ⟨w.heap.size, 0, none⟩) := hA.old' 3
   have hnd : γ.done = false := by
    cases h : γ.done with
    | false => rfl
    | true => exact absurd (hcl 1 (hcl 8 (hcl 9 (hcl 10 (hcl 11 (hcl 13 (hs'.done.1 h) 11 (by decide)) 10 (by decide)) 9 (by decide)) 8 (by decide)) 1 (by decide)) 0 (by decide)) hnL
   have hbk := (hs'.ahead hnd).sch
   obtain ⟨b, d, k0, k1, k2, k3, k4, k5, hcs⟩ := HSH.out
   rw [hcs] at hbk
   have l0 := blk_cell hbk 0
   have l1 := blk_cell hbk 1
   have l2 := blk_cell hbk 2
   have l3 := blk_cell hbk 3
   have l4 := blk_cell hbk 4
   have l5 := blk_cell hbk 5
   have l6 := blk_cell hbk 6
   have l7 := blk_cell hbk 7
   clear hA
   refine Region.StepG.pure (X := .agg cs) rfl ?_ rfl (hs'.other (by decide))
   rw [hcs]
   clear hcs
   go_simp
  ·have e8 : a.tmps.getD 8 undef = .agg cs := hA.gotL hd 0 8
   have hsn : γ.sv = none := by
    cases h : γ.sv with
    | none => rfl
    | some v => exact absurd (hs'.sv v h).1 hnL
   clear hA
   show Oper.wp _ _ _ _ _ _
   go_simp
   refine (schedule_c m cs HP.out w1).mono ?_
   rintro r w5 ⟨⟨sv, rfl, hsv⟩, hb⟩
   exact ⟨_, rfl, ⟨γ.done, some sv, γ.r⟩, rfl, hs'.made hb hsv, fun j t _ _ h => NiV.made hb hsn h⟩
  ·have e4 : a.tmps.getD 4 undef = .pointer (some ⟨w.heap.size + 1, 0, none⟩) := hA.old' 4
   have hnd : γ.done = false := by
    cases h : γ.done with
    | false => rfl
    | true => exact absurd (hcl 5 (hcl 9 (hcl 10 (hcl 11 (hcl 13 (hs'.done.1 h) 11 (by decide)) 10 (by decide)) 9 (by decide)) 5 (by decide)) 2 (by decide)) hnL
   have l0 := blk_cell (hs'.ahead hnd).inst 0
   have l1 := blk_cell (hs'.ahead hnd).inst 1
   clear hA
   refine Region.StepG.pure (X := .agg #[.int .i64 s, .int .i64 ns]) rfl ?_ rfl (hs'.other (by decide))
   go_simp
  ·have e5 : a.tmps.getD 5 undef = .pointer (some ⟨w.heap.size + 1 + 1, 0, none⟩) := hA.old' 5
   have hnd : γ.done = false := by
    cases h : γ.done with
    | false => rfl
    | true => exact absurd (hcl 4 (hcl 5 (hcl 9 (hcl 10 (hcl 11 (hcl 13 (hs'.done.1 h) 11 (by decide)) 10 (by decide)) 9 (by decide)) 5 (by decide)) 4 (by decide)) 3 (by decide)) hnL
   have l0 := blk_cell (hs'.ahead hnd).zone 0
   have l1 := blk_cell (hs'.ahead hnd).zone 1
   have l2 := blk_cell (hs'.ahead hnd).zone 2
   have l3 := blk_cell (hs'.ahead hnd).zone 3
   clear hA
   refine Region.StepG.pure (X := zUTC) rfl ?_ rfl (hs'.other (by decide))
   go_simp
  ·have e11 : a.tmps.getD 11 undef = zUTC := hA.gotL hd 3 11
   clear hA
   show Oper.wp _ _ _ _ _ _
   go_simp
   refine (location_utc w1).mono ?_
   rintro r w5 ⟨o1, rfl, horg, hb⟩
   have hu : IsUTC w5 o1 := by
    rcases horg with ⟨h, _⟩ | ⟨_, _, h⟩
    ·exact h
    ·cases h
   exact ⟨_, rfl, γ, fun _ => ⟨o1, rfl, hu⟩, (hs'.goes hb).other (by decide), fun j t _ _ h => NiV.keep hb h⟩
  ·have e10 : a.tmps.getD 10 undef = .agg #[.int .i64 s, .int .i64 ns] := hA.gotL hd 2 10
   have hnd : γ.done = false := by
    cases h : γ.done with
    | false => rfl
    | true => exact absurd (hcl 9 (hcl 10 (hcl 11 (hcl 13 (hs'.done.1 h) 11 (by decide)) 10 (by decide)) 9 (by decide)) 5 (by decide)) hnL
   obtain ⟨o1, e12, hu⟩ := (hA.gotL hd 4 12 : NiV cs s ns γ 4 _ w1) hnd
   clear hA
   show Oper.wp _ _ _ _ _ _
   go_simp
   refine (moment_utc s ns n0 n1 (by omega) (by omega) o1 w1 hu).mono ?_
   rintro r w5 ⟨rfl, hb⟩
   exact ⟨_, rfl, γ, rfl, (hs'.goes hb).other (by decide), fun j t _ _ h => NiV.keep hb h⟩
  ·obtain ⟨x9, e9⟩ : ∃ x, a.tmps.getD 9 undef = x := ⟨_, rfl⟩
   have hx9 : γ.sv = some x9 := e9 ▸ (hA.gotL hd 1 9 : NiV cs s ns γ 1 _ w1)
   have hmf : ∀ (fn : Fn) (first cap : Array Value) (w : World), (Instr.makeFunc fn first cap).run Tryz.prog w = .ok (.func fn first cap) w := fun _ _ _ _ => rfl
   clear hA
   refine Region.StepG.pure (X := .func (.method "Next") #[x9] #[]) rfl ?_ ⟨x9, hx9, rfl⟩ (hs'.other (by decide))
   go_simp
  ·obtain ⟨sv, hsv, e14⟩ : ∃ sv, γ.sv = some sv ∧ a.tmps.getD 14 undef = .func (.method "Next") #[sv] #[] := hA.gotL hd 6 14
   have hnd : γ.done = false := by
    cases h : γ.done with
    | false => rfl
    | true => exact absurd (hcl 8 (hcl 9 (hcl 10 (hcl 11 (hcl 13 (hs'.done.1 h) 11 (by decide)) 10 (by decide)) 9 (by decide)) 8 (by decide)) 7 (by decide)) hnL
   clear hA
   rcases (hs'.sv sv hsv).2 hnd with ⟨hev, b, k0, k1, k2, k3, k4, k5, rfl, hspec, f0, f1, f2, f3, f4, f5⟩ | ⟨hev, rfl⟩
   ·have hna : ∀ W : World, (nilAhead 435 126 (.pointer (some ⟨b, 0, none⟩)) "Next").run Tryz.prog W = .ok (some false) W := fun _ => by kernel_rfl
    refine Region.StepG.pure (X := .func (.method "Next") #[.iface 126 (.pointer (some ⟨b, 0, none⟩))] #[]) rfl ?_ trivial (hs'.other (by decide))
    go_simp
   ·have hna : ∀ W : World, (nilAhead 435 144 (.agg #[.int .i64 m.delay]) "Next").run Tryz.prog W = .ok (some false) W := fun _ => by kernel_rfl
    refine Region.StepG.pure (X := .func (.method "Next") #[.iface 144 (.agg #[.int .i64 m.delay])] #[]) rfl ?_ trivial (hs'.other (by decide))
    go_simp
  ·obtain ⟨x9, e9⟩ : ∃ x, a.tmps.getD 9 undef = x := ⟨_, rfl⟩
   have hx9 : γ.sv = some x9 := e9 ▸ (hA.gotL hd 1 9 : NiV cs s ns γ 1 _ w1)
   clear hA
   refine Region.StepG.pure (X := x9) rfl ?_ hx9 (hs'.other (by decide))
   go_simp
  ·obtain ⟨sv, e16⟩ : ∃ x, a.tmps.getD 16 undef = x := ⟨_, rfl⟩
   have hsv : γ.sv = some sv := e16 ▸ (hA.gotL hd 8 16 : NiV cs s ns γ 8 _ w1)
   have hnd : γ.done = false := by
    cases h : γ.done with
    | false => rfl
    | true => exact absurd (hcl 10 (hcl 11 (hcl 13 (hs'.done.1 h) 11 (by decide)) 10 (by decide)) 9 (by decide)) hnL
   have e13 : a.tmps.getD 13 undef = tm ns (s + 62135596800) (.pointer none) := hA.gotL hd 5 13
   have hrn : γ.r = none := by
    cases h : γ.r with
    | none => rfl
    | some r => exact absurd (hs'.r r h).2 hnL
   clear hA
   rcases (hs'.sv sv hsv).2 hnd with ⟨hev, b, k0, k1, k2, k3, k4, k5, rfl, hspec, f0, f1, f2, f3, f4, f5⟩ | ⟨hev, rfl⟩
   ·have hm : ∀ w : World, (method 435 126 (.pointer (some ⟨b, 0, none⟩)) "Next").run Tryz.prog w = .ok (202, .pointer (some ⟨b, 0, none⟩)) w := fun _ => by kernel_rfl
    show Oper.wp _ _ _ _ _ _
    go_simp
    refine (next_c b (.pointer none) k0 k1 k2 k3 k4 k5 none ns s n0 n1 h0 (by omega) w1 hspec (.inl rfl) (.inl ⟨rfl, rfl⟩)).mono ?_
    rintro r w5 ⟨⟨x, hx, rfl⟩, hb⟩
    have hnx : NxR m s x := .inr ⟨hev, Ans_congr (fits_same f0 f1 f2 f3 f4 f5) hx⟩
    refine ⟨_, rfl, ⟨γ.done, γ.sv, some x⟩, ?_, hs'.answer hb hrn hnx, fun j t hj _ h => NiV.answer hb hrn h⟩
    cases x with
    | none => exact ⟨none, none, rfl, rfl⟩
    | some x => exact ⟨some x, none, rfl, rfl⟩
   ·have hm : ∀ w : World, (method 435 144 (.agg #[.int .i64 m.delay]) "Next").run Tryz.prog w = .ok (235, .agg #[.int .i64 m.delay]) w := fun _ => by kernel_rfl
    show Oper.wp _ _ _ _ _ _
    go_simp
    obtain ⟨k, hk, hk1, hk2⟩ := HDL.out hev
    have HC := delayNext_c k ns (s + 62135596800) (.pointer none) ⟨none, rfl⟩ n0 n1 hk1 (by omega) (by omega) (by omega) w1
    rw [← hk] at HC
    refine HC.mono ?_
    rintro r w5 ⟨rfl, hb⟩
    have hnx : NxR m s (some (s + k)) := .inl ⟨hev, by rw [hk, Int.mul_ediv_cancel _ (by decide)]⟩
    refine ⟨_, rfl, ⟨γ.done, γ.sv, some (some (s + k))⟩, ⟨some (s + k), none, rfl, ?_⟩, hs'.answer hb hrn hnx, fun j t hj _ h => NiV.answer hb hrn h⟩
    show tm 0 (s + 62135596800 + k) (.pointer none) = tm 0 (s + k + 62135596800) (.pointer none)
    rw [show s + 62135596800 + k = s + k + 62135596800 by omega]
  ·obtain ⟨r, p, hr, e17⟩ := hA.gotL hd 9 17
   have hbd := fun x (h : r = some x) => (hs'.r r hr).1
   clear hA
   show Oper.wp _ _ _ _ _ _
   cases r with
   | none =>
    go_simp
    refine (answer_none _ ⟨p, rfl⟩ w1).mono ?_
    rintro r w5 ⟨rfl, hb⟩
    exact ⟨_, rfl, γ, ⟨none, hr, rfl⟩, (hs'.goes hb).other (by decide), fun j t _ _ h => NiV.keep hb h⟩
   | some x =>
    have hx := (hbd x rfl).bound HDL.out
    go_simp
    refine (answer_some 0 (x + 62135596800) _ ⟨p, rfl⟩ (by decide) (by decide) (by omega) (by omega) w1).mono ?_
    rintro r w5 ⟨rfl, hb⟩
    refine ⟨_, rfl, γ, ⟨some x, hr, ?_⟩, (hs'.goes hb).other (by decide), fun j t _ _ h => NiV.keep hb h⟩
    rw [show x + 62135596800 - 62135596800 = x by omega]; rfl
  ·obtain ⟨r, hr, e18⟩ := hA.gotL hd 10 18
   clear hA
   refine Region.StepG.pure (X := .agg #[.int .i64 (r.getD 0), .int .i64 0]) rfl ?_ ⟨r, hr, rfl⟩ (hs'.other (by decide))
   go_simp
  ·obtain ⟨r, hr, e18⟩ := hA.gotL hd 10 18
   clear hA
   refine Region.StepG.pure (X := .bool r.isSome) rfl ?_ ⟨r, hr, rfl⟩ (hs'.other (by decide))
   go_simp
  ·have e6 : a.tmps.getD 6 undef = .pointer (some ⟨w.heap.size + 1 + 1 + 1, 0, none⟩) := hA.old' 6
   obtain ⟨r, hr, e19⟩ := hA.gotL hd 11 19
   have hnd : γ.done = false := by
    cases h : γ.done with
    | false => rfl
    | true => exact absurd (hs'.done.1 h) hnL
   have hres := (hs'.ahead hnd).res
   have l0 := blk_cell hres 0
   have l1 := blk_cell hres 1
   have d0 := blk_frozen hres 0
   have d1 := blk_frozen hres 1
   clear hA
   show Oper.wp _ _ _ _ _ _
   go_simp
   have q0 := blk_put hres 0 (.int .i64 (r.getD 0)) (cs' := #[.int .i64 (r.getD 0), .int .i64 0]) rfl
   have q1 := blk_put q0 1 (.int .i64 0) (cs' := #[.int .i64 (r.getD 0), .int .i64 0]) rfl
   exact ⟨undef, ⟨true, γ.sv, γ.r⟩, trivial, ⟨below_set (below_set hs'.below (by omega)) (by omega), fun e => (by cases e), fun _ => ⟨r, hr, q1⟩, ⟨fun _ => .inl rfl, fun _ => rfl⟩, fun v e => ⟨.inr (hs'.sv v e).1, fun e => (by cases e)⟩, fun r hr => ⟨(hs'.r r hr).1, .inr (hs'.r r hr).2⟩⟩, fun j t _ _ h => NiV.over h⟩
 ·intro γ a w5 L hs' hall hO hA
  obtain ⟨r, hr, hblk⟩ := hs'.behind (hs'.done.2 (hall 13 (by decide) (by decide)))
  have hbel := hs'.below
  have hnx := (hs'.r r hr).1
  have one : ∀ (X : Option Int → Value) (v : Value), (∃ r, γ.r = some r ∧ v = X r) → v = X r := fun X v h => by
   obtain ⟨r', h1, h2⟩ := h
   rw [hr] at h1; cases h1; exact h2
  obtain ⟨x9, e9⟩ : ∃ x, a.tmps.getD 9 undef = x := ⟨_, rfl⟩
  obtain ⟨x12, e12⟩ : ∃ x, a.tmps.getD 12 undef = x := ⟨_, rfl⟩
  obtain ⟨x14, e14⟩ : ∃ x, a.tmps.getD 14 undef = x := ⟨_, rfl⟩
  obtain ⟨x15, e15⟩ : ∃ x, a.tmps.getD 15 undef = x := ⟨_, rfl⟩
  obtain ⟨x16, e16⟩ : ∃ x, a.tmps.getD 16 undef = x := ⟨_, rfl⟩
  obtain ⟨x17, e17⟩ : ∃ x, a.tmps.getD 17 undef = x := ⟨_, rfl⟩
  obtain rfl := hA.frame [(8, .agg cs), (9, x9), (10, .agg #[.int .i64 s, .int .i64 ns]), (11, zUTC), (12, x12), (13, tm ns (s + 62135596800) (.pointer none)), (14, x14), (15, x15), (16, x16), (17, x17), (18, .tuple #[.agg #[.int .i64 (r.getD 0), .int .i64 0], .bool r.isSome]), (19, .agg #[.int .i64 (r.getD 0), .int .i64 0]), (20, .bool r.isSome), (7, .bool false)] (by
   intro p hp
   simp only [List.mem_cons, List.not_mem_nil, or_false] at hp
   rcases hp with rfl | rfl | rfl | rfl | rfl | rfl | rfl | rfl | rfl | rfl | rfl | rfl | rfl | rfl
   ·exact hA.end' 0 8
   ·exact e9
   ·exact hA.end' 2 10
   ·exact hA.end' 3 11
   ·exact e12
   ·exact hA.end' 5 13
   ·exact e14
   ·exact e15
   ·exact e16
   ·exact e17
   ·exact one (fun r => .tuple #[.agg #[.int .i64 (r.getD 0), .int .i64 0], .bool r.isSome]) _ (hA.end' 10 18)
   ·exact one (fun r => .agg #[.int .i64 (r.getD 0), .int .i64 0]) _ (hA.end' 11 19)
   ·exact one (fun r => .bool r.isSome) _ (hA.end' 12 20)
   ·exact hO 7 (Region.not_at (by kernel_rfl))) (by kernel_rfl)
  clear hA hO hs' hall one e9 e12 e14 e15 e16 e17 hr
  simp only [List.foldl_cons, List.foldl_nil]
  simp only [List.setIfInBounds_toArray, List.set_cons_zero, List.set_cons_succ]
  show Oper.wp _ _ _ _ _ _
  go_wp2
  refine bodyPost_ret (results_ct rfl _ _ (w.heap.size + 1 + 1 + 1) 23 _ (0, 0) _ rfl hblk hu23 rfl (by kernel_rfl)) rfl ?_
  exact ⟨⟨r, hnx, rfl⟩, hbel⟩
open Go.RowKit Go.Proofs.YtcjdideliifkhaaGreatDoorW.PrintWords Go.Proofs.YtcjdideliifkhaaGreatDoorW.PrintLast Go.Proofs.YtcjdideliifkhaaGreatDoorW.PrintMore PFnCronTextAfterAnywhere
theorem and_mono2 {n m : Int} (h0 : 0 ≤ n) (h1 : n < 1000000000) (g0 : 0 ≤ m) (g1 : m < 1000000000) : bits .and .u64 (bits .and .u64 n m) 9223372036854775808 = 0 := by
 obtain ⟨a, rfl⟩ := Int.eq_ofNat_of_zero_le h0
 obtain ⟨b, rfl⟩ := Int.eq_ofNat_of_zero_le g0
 have e := (bits_nat .u64 64 (by decide) wraps_u64 a b (by omega) (by omega)).1
 have hl : a &&& b ≤ a := Nat.and_le_left
 have e2 : bits .and .u64 (a : Int) (b : Int) = ((a &&& b : Nat) : Int) := e
 rw [e2]
 exact and_mono (by omega) (by omega)
abbrev Tm := Int × Int
def Tm.Ok (t : Tm) : Prop := 0 ≤ t.1 ∧ t.1 < 1000000000
def Tm.val (t : Tm) : Value := tm t.1 t.2 (.pointer none)
def befL (s t : Tm) : Bool := decide (s.2 < t.2) || (decide (s.2 = t.2) && decide (s.1 < t.1))
def zeroT (t : Tm) : Bool := decide (t.1 = 0 ∧ t.2 = 0)
def lessT (s t : Tm) : Bool := !zeroT s && (zeroT t || befL s t)
theorem lessT_asymm {s t : Tm} (h : lessT s t = true) : lessT t s = false := by
 unfold lessT zeroT befL at *
 simp only [Bool.and_eq_true, Bool.not_eq_true', Bool.or_eq_true, decide_eq_true_eq, decide_eq_false_iff_not] at h
 simp only [Bool.and_eq_false_iff, Bool.not_eq_false', Bool.or_eq_false_iff, decide_eq_true_eq, decide_eq_false_iff_not]
 omega
theorem lessT_ntrans {s t u : Tm} (h : lessT s t = false) (h' : lessT t u = false) : lessT s u = false := by
 unfold lessT zeroT befL at *
 simp only [Bool.and_eq_false_iff, Bool.not_eq_false', Bool.or_eq_false_iff, decide_eq_true_eq, decide_eq_false_iff_not] at *
 omega
theorem timeBefore_c (s t : Tm) (h : s.Ok) (g : t.Ok) (w : World) :
  Calls Tryz.prog 240 #[s.val, t.val] w fun r w' => r = .returned (.bool (befL s t)) ∧ Below w.heap.size w w' := by
 obtain ⟨n1, e1⟩ := s
 obtain ⟨n2, e2⟩ := t
 obtain ⟨h0, h1⟩ := h
 obtain ⟨g0, g1⟩ := g
 have hb := and_mono2 h0 h1 g0 g1
 have HB := Lib.hid (below_alloc (below_alloc (Below.refl w.heap.size w) (.cells #[.int .u64 n1, .int .i64 e1, .pointer none] 90)) (.cells #[.int .u64 n2, .int .i64 e2, .pointer none] 90))
 show Calls _ _ #[tm n1 e1 (.pointer none), tm n2 e2 (.pointer none)] _ _
 obtain ⟨b1, q1⟩ : ∃ b, decide (e1 < e2) = b := ⟨_, rfl⟩
 obtain ⟨b2, q2⟩ : ∃ b, decide (e1 = e2) = b := ⟨_, rfl⟩
 have q3 : (e1 == e2) = b2 := by rw [← q2]; by_cases c : e1 = e2 <;> simp [c]
 have hr : befL (n1, e1) (n2, e2) = (b1 || (b2 && decide (n1 < n2))) := by unfold befL; rw [q1, q2]
 rw [hr]
 clear hr q2
 have S1 := Lib.hid (sec_c w.heap.size 0 n1 e1 h0 h1 ((w.alloc (.cells #[.int .u64 n1, .int .i64 e1, .pointer none] 90)).alloc (.cells #[.int .u64 n2, .int .i64 e2, .pointer none] 90)) (by simp [go_sem]) (by simp [go_sem]))
 have S2 := Lib.hid (sec_c (w.heap.size + 1) 0 n2 e2 g0 g1 ((w.alloc (.cells #[.int .u64 n1, .int .i64 e1, .pointer none] 90)).alloc (.cells #[.int .u64 n2, .int .i64 e2, .pointer none] 90)) (by simp [go_sem]) (by simp [go_sem]))
 have N1 := Lib.hid (nsec_c w.heap.size 0 n1 h0 h1 ((w.alloc (.cells #[.int .u64 n1, .int .i64 e1, .pointer none] 90)).alloc (.cells #[.int .u64 n2, .int .i64 e2, .pointer none] 90)) (by simp [go_sem]))
 have N2 := Lib.hid (nsec_c (w.heap.size + 1) 0 n2 g0 g1 ((w.alloc (.cells #[.int .u64 n1, .int .i64 e1, .pointer none] 90)).alloc (.cells #[.int .u64 n2, .int .i64 e2, .pointer none] 90)) (by simp [go_sem]))
 go_enter Tryz.func240, Tryz.ntmps240
 cases b1 <;> cases b2
 all_goals
  go_wp2_with (first
   | (go_at_call 147; refine S1.out.mono ?_; clear S1; rintro e w' ⟨rfl, rfl⟩)
   | (go_at_call 147; refine S2.out.mono ?_; clear S2; rintro e w' ⟨rfl, rfl⟩)
   | (go_at_call 126; refine N1.out.mono ?_; clear N1; rintro e w' ⟨rfl, rfl⟩)
   | (go_at_call 126; refine N2.out.mono ?_; clear N2; rintro e w' ⟨rfl, rfl⟩))
  go_ret
  exact ⟨by simp, HB.out⟩
structure EntAt (w : World) (p : Nat) (id : Int) (t : Tm) : Prop where
 id : w.cell? ⟨p, 0, none⟩ = some (.int .i64 id)
 ns : w.cell? ⟨p, 2, none⟩ = some (.int .u64 t.1)
 sec : w.cell? ⟨p, 3, none⟩ = some (.int .i64 t.2)
 loc : w.cell? ⟨p, 4, none⟩ = some (.pointer none)
theorem EntAt.goes {w w' : World} {p : Nat} {id : Int} {t : Tm} (h : EntAt w p id t) (hb : Below w.heap.size w w') : EntAt w' p id t :=
 ⟨pw_cell_below hb h.id, pw_cell_below hb h.ns, pw_cell_below hb h.sec, pw_cell_below hb h.loc⟩
abbrev ptr (p : Nat) : Value := .pointer (some ⟨p, 0, none⟩)
structure SrtS (w0 : World) (B : Nat) (E : Nat → Int × Tm) (l : List Nat) (w : World) : Prop where
 below : Below w0.heap.size w0 w
 le : w0.heap.size ≤ B
 row : ∃ cur : Array Value, w.heap[B]? = some (.cells cur 152 (0, 0)) ∧ ∀ i (h : i < l.length), cur[i]? = some (ptr l[i])
 ent : ∀ p ∈ l, p ≠ B ∧ (E p).2.Ok ∧ EntAt w p (E p).1 (E p).2
theorem SrtS.goes {w0 : World} {B : Nat} {E : Nat → Int × Tm} {l : List Nat} {w w' : World} (h : SrtS w0 B E l w) (hb : Below w.heap.size w w') : SrtS w0 B E l w' := by
 obtain ⟨cur, h1, h2⟩ := h.row
 exact ⟨below_step h.below hb, h.le, ⟨cur, blk_below h1 hb, h2⟩, fun p hp => ⟨(h.ent p hp).1, (h.ent p hp).2.1, (h.ent p hp).2.2.goes hb⟩⟩
theorem SrtS.cell {w0 : World} {B : Nat} {E : Nat → Int × Tm} {l : List Nat} {w : World} (h : SrtS w0 B E l w) (i : Nat) (hi : i < l.length) : w.cell? ⟨B, i, none⟩ = some (ptr l[i]) := by
 obtain ⟨cur, h1, h2⟩ := h.row
 rw [blk_cell h1 i]; exact h2 i hi
theorem less_c (w0 : World) (B n c : Nat) (E : Nat → Int × Tm) (l : List Nat) (hl : l.length = n) (hn : n ≤ 1000) (i j : Nat) (hi : i < n) (hj : j < n) (w : World) (h : SrtS w0 B E l w) :
  Calls Tryz.prog 238 #[.slice (some ⟨B, 0, none⟩) n c, .int .i64 (i : Int), .int .i64 (j : Int)] w fun e w' => e = .returned (.bool (lessT (E l[i]).2 (E l[j]).2)) ∧ Below w.heap.size w w' := by
 have ci := h.cell i (by omega)
 have cj := h.cell j (by omega)
 obtain ⟨-, ko, ki⟩ := h.ent l[i] (List.getElem_mem _)
 obtain ⟨-, go, kj⟩ := h.ent l[j] (List.getElem_mem _)
 obtain ⟨ii, ti, ei⟩ : ∃ ii ti, E l[i] = (ii, ti) := ⟨_, _, rfl⟩
 obtain ⟨ij, tj, ej⟩ : ∃ ij tj, E l[j] = (ij, tj) := ⟨_, _, rfl⟩
 rw [ei] at ko ki ⊢
 rw [ej] at go kj ⊢
 obtain ⟨p, hp⟩ : ∃ p, l[i] = p := ⟨_, rfl⟩
 obtain ⟨q, hq⟩ : ∃ q, l[j] = q := ⟨_, rfl⟩
 rw [hp] at ci ki
 rw [hq] at cj kj
 clear h ei ej hp hq
 obtain ⟨ni, si⟩ := ti
 obtain ⟨nj, sj⟩ := tj
 obtain ⟨-, i1, i2, i3⟩ := ki
 obtain ⟨-, j1, j2, j3⟩ := kj
 simp only [] at i1 i2 j1 j2
 obtain ⟨z1, hz1⟩ : ∃ b, decide (ni = 0 ∧ si = 0) = b := ⟨_, rfl⟩
 obtain ⟨z2, hz2⟩ : ∃ b, decide (nj = 0 ∧ sj = 0) = b := ⟨_, rfl⟩
 have hr : lessT (ni, si) (nj, sj) = (!z1 && (z2 || befL (ni, si) (nj, sj))) := by unfold lessT zeroT; rw [hz1, hz2]
 show Calls _ _ _ _ fun e w' => e = .returned (.bool (lessT (ni, si) (nj, sj))) ∧ _
 rw [hr]
 have Z1 := Lib.hid (isZero_c ni si (.pointer none) ⟨_, rfl⟩)
 have Z2 := Lib.hid (isZero_c nj sj (.pointer none) ⟨_, rfl⟩)
 rw [hz1] at Z1
 rw [hz2] at Z2
 have BF := Lib.hid (timeBefore_c (ni, si) (nj, sj) ko go)
 clear hr hz1 hz2
 go_enter Tryz.func238, Tryz.ntmps238
 cases z1
 ·cases z2
  ·go_upto_region 5 with (first
    | (go_at_call 65; refine (Z1.out _).mono ?_; clear Z1; rintro e w1 ⟨rfl, hb1⟩; replace ci := pw_cell_below hb1 ci; replace cj := pw_cell_below hb1 cj; replace i1 := pw_cell_below hb1 i1; replace i2 := pw_cell_below hb1 i2; replace i3 := pw_cell_below hb1 i3; replace j1 := pw_cell_below hb1 j1; replace j2 := pw_cell_below hb1 j2; replace j3 := pw_cell_below hb1 j3; have HB1 := Lib.hid hb1; clear hb1)
    | (go_at_call 65; refine (Z2.out _).mono ?_; clear Z2; rintro e w2 ⟨rfl, hb2⟩; replace ci := pw_cell_below hb2 ci; replace cj := pw_cell_below hb2 cj; replace i1 := pw_cell_below hb2 i1; replace i2 := pw_cell_below hb2 i2; replace i3 := pw_cell_below hb2 i3; replace j1 := pw_cell_below hb2 j1; replace j2 := pw_cell_below hb2 j2; replace j3 := pw_cell_below hb2 j3; have HB2 := Lib.hid (below_step HB1.out hb2); clear hb2))
   go_region_with (first | (go_at_call 240; refine (BF.out _).mono ?_; rintro e w3 ⟨rfl, hb3⟩; have HB3 := Lib.hid (below_step HB2.out.drew hb3); clear hb3))
   all_goals (try go_wp2)
   all_goals go_ret
   all_goals exact ⟨rfl, HB3.out⟩
  ·go_wp2_with (first
    | (go_at_call 65; refine (Z1.out _).mono ?_; clear Z1; rintro e w1 ⟨rfl, hb1⟩; replace ci := pw_cell_below hb1 ci; replace cj := pw_cell_below hb1 cj; replace i1 := pw_cell_below hb1 i1; replace i2 := pw_cell_below hb1 i2; replace i3 := pw_cell_below hb1 i3; replace j1 := pw_cell_below hb1 j1; replace j2 := pw_cell_below hb1 j2; replace j3 := pw_cell_below hb1 j3; have HB1 := Lib.hid hb1; clear hb1)
    | (go_at_call 65; refine (Z2.out _).mono ?_; clear Z2; rintro e w2 ⟨rfl, hb2⟩; replace ci := pw_cell_below hb2 ci; replace cj := pw_cell_below hb2 cj; replace i1 := pw_cell_below hb2 i1; replace i2 := pw_cell_below hb2 i2; replace i3 := pw_cell_below hb2 i3; replace j1 := pw_cell_below hb2 j1; replace j2 := pw_cell_below hb2 j2; replace j3 := pw_cell_below hb2 j3; have HB2 := Lib.hid (below_step HB1.out hb2); clear hb2))
   go_ret
   exact ⟨rfl, HB2.out⟩
 ·go_wp2_with (go_at_call 65; refine (Z1.out _).mono ?_; clear Z1; rintro e w1 ⟨rfl, hb1⟩)
  go_ret
  exact ⟨rfl, hb1⟩
theorem swap_w (B n c : Nat) (W : World) (x y : Nat) (i j : Nat) (hi : i < n) (hj : j < n) (hn : n ≤ 1000)
  (ci : W.cell? ⟨B, i, none⟩ = some (ptr x)) (cj : W.cell? ⟨B, j, none⟩ = some (ptr y)) (fi : W.frozen? ⟨B, i, none⟩ = false) (fj : W.frozen? ⟨B, j, none⟩ = false) :
  Calls Tryz.prog 239 #[.slice (some ⟨B, 0, none⟩) n c, .int .i64 (i : Int), .int .i64 (j : Int)] W fun e w' => e = .returned (.tuple #[]) ∧ ∃ q, w' = ((W.setCell ⟨B, i, none⟩ (ptr y)).setCell ⟨B, j, none⟩ (ptr x)).drewN q := by
 obtain ⟨v', hy'⟩ := cell?_setCell_some (w := W) (p := ⟨B, i, none⟩) (x := ptr y) (q := ⟨B, j, none⟩) cj
 go_enter Tryz.func239, Tryz.ntmps239
 go_wp2
 go_region
 all_goals (try go_wp2)
 all_goals go_end0
 all_goals exact ⟨rfl, 1, rfl⟩
end Go.Proofs.YtcjdideliifkhaaGreatDoor
