import Derived.Test.YtcjdideliifkhaaGreatDoorB22
set_option maxRecDepth 100000
set_option maxHeartbeats 16000000
namespace Go.Proofs.YtcjdideliifkhaaGreatDoor
open Go.RowKit Go.Proofs.YtcjdideliifkhaaGreatDoorW.PrintWords Go.Proofs.YtcjdideliifkhaaGreatDoorW.PrintLast Go.Proofs.YtcjdideliifkhaaGreatDoorW.PrintMore PFnCronTextAfterAnywhere
set_option linter.unusedVariables false
set_option linter.unusedSimpArgs false
def SixQ (ps : List Txt) (w : World) (e : Ending) (w' : World) : Prop :=
 (∃ (F : CF) (v : Int), e = .returned (.tuple #[fval F, .int .i64 v]) ∧ 0 ≤ v ∧ (v = 1 → ∀ k (hk : k < ps.length), FieldR (k : Int) ps[k] (F k))) ∧ Below w.heap.size w w'
structure SixM (w : World) (b2 b4 : Nat) (F : CF) (w' : World) : Prop where
 z : FBlk w' b2 CF.zero
 f : FBlk w' b4 F
 below : Below w.heap.size w w'
 lb : w.heap.size ≤ b2
 ne : b2 < b4
theorem SixM.goes {w : World} {b2 b4 : Nat} {F : CF} {w' w'' : World} (h : SixM w b2 b4 F w') (hb : Below w'.heap.size w' w'') : SixM w b2 b4 F w'' :=
 ⟨h.z.below hb, h.f.below hb, below_step h.below hb, h.lb, h.ne⟩
def SixL (ps : List Txt) (w : World) (b2 b4 : Nat) (v5 iv : Value) (wr : World) : Prop :=
 ∃ (i : Nat) (vd : Int) (F : CF), iv = .int .i64 (i : Int) ∧ v5 = .int .i64 vd ∧ i ≤ 6 ∧ 0 ≤ vd ∧ SixM w b2 b4 F wr ∧ (vd = 1 → ∀ k (hk : k < ps.length), k < i → FieldR (k : Int) ps[k] (F k))
structure SixG where
 r : Option (CSet × Int)
 g : Option Nat
structure SixS (w : World) (b2 b4 : Nat) (F : CF) (B0 : Nat) (i : Nat) (p : Txt) (γ : SixG) (L : Nat → Prop) (w' : World) : Prop where
 m : SixM w b2 b4 F w'
 lt : b4 < B0
 le : B0 ≤ w'.heap.size
 res : ∀ one v1, γ.r = some (one, v1) → 0 ≤ v1 ∧ (v1 = 1 → FieldR (i : Int) p one)
 blk : ∀ g, γ.g = some g → B0 ≤ g ∧ ∃ s, SAt w' g s ∧ (L 11 → ∃ v1, γ.r = some (s, v1))
theorem SixS.start {w : World} {b2 b4 : Nat} {F : CF} {B0 i : Nat} {p : Txt} {w' : World} (h : SixM w b2 b4 F w') (hl : b4 < B0) (hle : B0 ≤ w'.heap.size) : SixS w b2 b4 F B0 i p ⟨none, none⟩ (fun _ => False) w' :=
 ⟨h, hl, hle, fun _ _ h => (by cases h), fun _ h => (by cases h)⟩
theorem SixS.goes {w : World} {b2 b4 : Nat} {F : CF} {B0 i : Nat} {p : Txt} {γ : SixG} {L : Nat → Prop} {w' w'' : World} (h : SixS w b2 b4 F B0 i p γ L w') (hb : Below w'.heap.size w' w'') : SixS w b2 b4 F B0 i p γ L w'' :=
 ⟨h.m.goes hb, h.lt, Nat.le_trans h.le hb.size, h.res, fun g hg => by
  obtain ⟨h1, s, h2, h3⟩ := h.blk g hg
  exact ⟨h1, s, h2.below hb, h3⟩⟩
theorem SixS.other {w : World} {b2 b4 : Nat} {F : CF} {B0 i : Nat} {p : Txt} {γ : SixG} {L : Nat → Prop} {w' : World} (h : SixS w b2 b4 F B0 i p γ L w') {n : Nat} (hn : 11 ≠ n) : SixS w b2 b4 F B0 i p γ (fun j => j = n ∨ L j) w' :=
 ⟨h.m, h.lt, h.le, h.res, fun g hg => by
  obtain ⟨h1, s, h2, h3⟩ := h.blk g hg
  exact ⟨h1, s, h2, fun hl => h3 (hl.resolve_left hn)⟩⟩
theorem SixS.result {w : World} {b2 b4 : Nat} {F : CF} {B0 i : Nat} {p : Txt} {γ : SixG} {L : Nat → Prop} {w' w'' : World} (h : SixS w b2 b4 F B0 i p γ L w') (hb : Below w'.heap.size w' w'') (hn : ¬ L 11) {one : CSet} {v1 : Int} (hv : 0 ≤ v1) (hr : v1 = 1 → FieldR (i : Int) p one) :
  SixS w b2 b4 F B0 i p { γ with r := some (one, v1) } (fun j => j = 6 ∨ L j) w'' :=
 ⟨h.m.goes hb, h.lt, Nat.le_trans h.le hb.size, fun o v e => by cases e; exact ⟨hv, hr⟩, fun g hg => by
  obtain ⟨h1, s, h2, h3⟩ := h.blk g hg
  exact ⟨h1, s, h2.below hb, fun hl => absurd (hl.resolve_left (by decide)) hn⟩⟩
theorem SixS.made {w : World} {b2 b4 : Nat} {F : CF} {B0 i : Nat} {p : Txt} {γ : SixG} {L : Nat → Prop} {w' : World} (h : SixS w b2 b4 F B0 i p γ L w') (hn : ¬ L 11) :
  SixS w b2 b4 F B0 i p { γ with g := some w'.heap.size } (fun j => j = 10 ∨ L j) (w'.alloc (.cells CSet.zero.cells.toArray 36)) :=
 ⟨h.m.goes (below_alloc (Below.refl _ _) _), h.lt, Nat.le_trans h.le (below_alloc (Below.refl w'.heap.size w') (.cells CSet.zero.cells.toArray 36)).size, h.res, fun g hg => by
  cases hg
  exact ⟨h.le, CSet.zero, SAt.boxed _ _, fun hl => absurd (hl.resolve_left (by decide)) hn⟩⟩
theorem SixS.stored {w : World} {b2 b4 : Nat} {F : CF} {B0 i : Nat} {p : Txt} {γ : SixG} {L : Nat → Prop} {w' w'' : World} (h : SixS w b2 b4 F B0 i p γ L w') {g : Nat} (hg : γ.g = some g) {one : CSet} {v1 : Int} (hr : γ.r = some (one, v1))
  (hs : SAt w'' g one) (hb : ∀ B, B ≤ g → Below B w' w'') : SixS w b2 b4 F B0 i p γ (fun j => j = 11 ∨ L j) w'' := by
 obtain ⟨h1, s, h2, h3⟩ := h.blk g hg
 have hB := hb B0 h1
 have hlt := h.lt
 have hne := h.m.ne
 have hlb := h.m.lb
 refine ⟨⟨(hB.block _ (by omega)).trans h.m.z, (hB.block _ (by omega)).trans h.m.f, h.m.below.trans (hB.mono (by omega)), hlb, hne⟩, hlt, Nat.le_trans h.le hB.size, h.res, fun g' hg' => ?_⟩
 rw [hg] at hg'; cases hg'
 exact ⟨h1, one, hs, fun _ => ⟨v1, hr⟩⟩
theorem six_c (ps : List Txt) (h6 : ps.length = 6) (hps : ∀ p ∈ ps, (ofL p).size ≤ 4294967296) (vp : Value) (w : World) (hrow : Strs w vp (ps.map ofL)) :
  Calls Tryz.prog 45 #[vp] w (SixQ ps w) := by
 obtain ⟨A, c, rfl, hr⟩ := hrow
 obtain ⟨ad, rfl, -⟩ := hr 0 (by simp [h6])
 have hlen : (ps.map ofL).length = 6 := by simp [h6]
 rw [hlen]
 have hcell : ∀ i (hi : i < ps.length), w.cell? (ad.add i) = some (.string (ofL ps[i])) := fun i hi => by
  obtain ⟨ad', e, h⟩ := hr i (by simpa using hi)
  cases e
  rw [h]; simp
 clear hr
 go_enter Tryz.func45, Tryz.ntmps45
 go_upto_region 1 with (refine wpList_alloc_six rfl rfl ?_; intro b2 hg w1 hz hb hlt)
 have hb' : Below w.heap.size w w1 := hb
 subst hg
 have hl2 : w.heap.size ≤ w.heap.size := Nat.le_refl _
 clear hb
 go_upto_region 2 with (refine wpList_alloc_six rfl rfl ?_; intro b4 hg w2 hf hb hlt2)
 have hM : SixM w w.heap.size b4 CF.zero w2 := ⟨hz.below hb, hf, below_step hb' hb, hl2, by omega⟩
 have hL := Lib.hid (show SixL ps w w.heap.size b4 (.int .i64 1) (.int .i64 0) w2 from ⟨0, 1, CF.zero, rfl, rfl, by decide, by decide, hM, fun _ k _ h => absurd h (by omega)⟩)
 have HC := Lib.hid hcell
 clear hcell hg hb hb' hz hf hlt hlt2 hM
 go_wp2
 go_loopw [5, 9] (fun v5 iv wr => SixL ps w w.heap.size b4 v5 iv wr) (fun _ iv _ => (6 - intOf iv).toNat)
 case atStart => exact hL.out
 case round =>
  obtain ⟨i, vd, F, rfl, rfl, hi, hvd, hM, hsem⟩ := hrel
  clear hL
  by_cases hlt : i < 6
  ·have hc0 := HC.out i (by omega)
   have hmem : ps[i]'(by omega) ∈ ps := List.getElem_mem _
   have hsz := hps _ hmem
   have hpi : ∃ p, p = ps[i]'(by omega) := ⟨_, rfl⟩
   obtain ⟨p, hp⟩ := hpi
   rw [← hp] at hc0 hsz
   have HP := Lib.hid hp
   have HSEM := Lib.hid hsem
   have HM := Lib.hid hM
   have hlt' : (i : Int) < 6 := by omega
   clear hmem hp hsem hM
   go_upto_region 6 with (fail)
   have HD := Lib.hid (HM.out.f.lt)
   refine wp_region_ghost (by kernel_rfl) 34 rfl 13 (fun (γ : SixG) j v _ => match j with | 0 => v = .int .i64 (i : Int) | 1 => v = .agg #[Value.int IntKind.i64 (low (i : Int)), Value.int IntKind.i64 (high (i : Int)), Value.int IntKind.i64 (i : Int)] | 2 => v = .slice (some ad) 6 c | 3 => v = .int .i64 (i : Int) | 4 => v = .pointer (some (ad.add i)) | 5 => v = .string (ofL p) | 6 => ∃ one v1, γ.r = some (one, v1) ∧ v = .tuple #[.agg one.cells.toArray, .int .i64 v1] | 7 => ∃ one v1, γ.r = some (one, v1) ∧ v = .tuple #[.agg one.cells.toArray, .int .i64 v1] | 8 => ∃ one v1, γ.r = some (one, v1) ∧ v = .agg one.cells.toArray | 9 => ∃ (one : CSet) (v1 : Int), γ.r = some (one, v1) ∧ v = .int .i64 v1 | 10 => ∃ g : Nat, γ.g = some g ∧ v = .pointer (some ⟨g, 0, none⟩) | 12 => ∃ (one : CSet) (v1 : Int), γ.r = some (one, v1) ∧ v = .int .i64 v1 | _ => True) (fun γ L w' => SixS w w.heap.size b4 F wr.heap.size i p γ L w') ⟨none, none⟩ (by kernel_rfl) (by kernel_rfl) (by kernel_rfl) (by kernel_rfl) (by kernel_rfl) (SixS.start (HM.out.goes (Below.refl _ _).drew) HD.out (Nat.le_refl _)) ?_ ?_
   ·refine ⟨fun _ γ a w1 L hs' hA hnL hd hcl hO => ?_, fun _ γ a w1 L hs' hA hnL hd hcl hO => ?_, fun _ γ a w1 L hs' hA hnL hd hcl hO => ?_, fun _ γ a w1 L hs' hA hnL hd hcl hO => ?_, fun _ γ a w1 L hs' hA hnL hd hcl hO => ?_, fun _ γ a w1 L hs' hA hnL hd hcl hO => ?_, fun _ γ a w1 L hs' hA hnL hd hcl hO => ?_, fun _ γ a w1 L hs' hA hnL hd hcl hO => ?_, fun _ γ a w1 L hs' hA hnL hd hcl hO => ?_, fun _ γ a w1 L hs' hA hnL hd hcl hO => ?_, fun _ γ a w1 L hs' hA hnL hd hcl hO => ?_, fun _ γ a w1 L hs' hA hnL hd hcl hO => ?_, fun _ γ a w1 L hs' hA hnL hd hcl hO => ?_, trivial⟩
    ·have e6 : a.tmps.getD 6 undef = .int .i64 (i : Int) := hA.old' 6
     clear hA
     refine Region.StepG.pure (X := .int .i64 (i : Int)) rfl ?_ rfl (hs'.other (by decide))
     go_simp
    ·have e13 := hA.gotL hd 0 13
     simp only at e13
     clear hA
     show Oper.wp _ _ _ _ _ _
     go_simp
     refine (spec_CronBoundsOf.calls (i : Int) (low (i : Int)) (high (i : Int)) (i : Int) _ (by unfold spec_CronBoundsOf.f; rw [low_f, high_f]; rfl)).mono ?_
     rintro r w4 ⟨rfl, hb4⟩
     exact ⟨_, rfl, rfl, γ, (hs'.goes hb4).other (by decide), fun j t _ _ h => h⟩
    ·have e0 : a.tmps.getD 0 undef = .slice (some ad) 6 c := hA.old' 0
     clear hA
     refine Region.StepG.pure (X := .slice (some ad) 6 c) rfl ?_ rfl (hs'.other (by decide))
     go_simp
    ·have e6 : a.tmps.getD 6 undef = .int .i64 (i : Int) := hA.old' 6
     clear hA
     refine Region.StepG.pure (X := .int .i64 (i : Int)) rfl ?_ rfl (hs'.other (by decide))
     go_simp
    ·have e15 := hA.gotL hd 2 15
     simp only at e15
     have e16 := hA.gotL hd 3 16
     simp only at e16
     have i0 : (0 : Int) ≤ (i : Int) := by omega
     have i1 : (i : Int) < 6 := by omega
     clear hA
     refine Region.StepG.pure (X := .pointer (some (ad.add i))) rfl ?_ rfl (hs'.other (by decide))
     go_simp
    ·have e17 := hA.gotL hd 4 17
     simp only at e17
     have hc := pw_cell_below hs'.m.below hc0
     clear hA
     refine Region.StepG.pure (X := .string (ofL p)) rfl ?_ rfl (hs'.other (by decide))
     go_simp
    ·have e14 := hA.gotL hd 1 14
     simp only at e14
     have e18 := hA.gotL hd 5 18
     simp only at e18
     clear hA
     show Oper.wp _ _ _ _ _ _
     go_simp
     refine (field_c (i : Int) (by omega) (by omega) (ofL p) hsz _).mono ?_
     rintro r w4 ⟨⟨one, v1, rfl, hv1, hrel1⟩, hb4⟩
     refine ⟨_, rfl, { γ with r := some (one, v1) }, ⟨one, v1, rfl, rfl⟩, SixS.result hs' hb4 (fun h => hnL (hcl 11 h 6 (by decide))) hv1 hrel1, fun j t hj hjt h => ?_⟩
     match j, hj, h with
     | 0, _, h => exact h
     | 1, _, h => exact h
     | 2, _, h => exact h
     | 3, _, h => exact h
     | 4, _, h => exact h
     | 5, _, h => exact h
     | 6, hj, _ => exact absurd hj hnL
     | 7, hj, _ => exact absurd (hcl 7 hj 6 (by decide)) hnL
     | 8, hj, _ => exact absurd (hcl 7 (hcl 8 hj 7 (by decide)) 6 (by decide)) hnL
     | 9, hj, _ => exact absurd (hcl 7 (hcl 9 hj 7 (by decide)) 6 (by decide)) hnL
     | 10, _, h => exact h
     | 11, _, h => exact h
     | 12, hj, _ => exact absurd (hcl 7 (hcl 9 (hcl 12 hj 9 (by decide)) 7 (by decide)) 6 (by decide)) hnL
     | n + 13, _, h => exact h
    ·obtain ⟨one, v1, hr1, e19⟩ := hA.gotL hd 6 19
     clear hA
     refine Region.StepG.pure (X := .tuple #[.agg one.cells.toArray, .int .i64 v1]) rfl ?_ ⟨one, v1, hr1, rfl⟩ (hs'.other (by decide))
     go_simp
    ·obtain ⟨one, v1, hr1, e12⟩ := hA.gotL hd 7 12
     clear hA
     refine Region.StepG.pure (X := .agg one.cells.toArray) rfl ?_ ⟨one, v1, hr1, rfl⟩ (hs'.other (by decide))
     go_simp
    ·obtain ⟨one, v1, hr1, e12⟩ := hA.gotL hd 7 12
     clear hA
     refine Region.StepG.pure (X := .int .i64 v1) rfl ?_ ⟨one, v1, hr1, rfl⟩ (hs'.other (by decide))
     go_simp
    ·clear hA
     show Oper.wp _ _ _ _ _ _
     unfold Oper.wp
     rw [exec_alloc36 _ _ rfl w1]
     refine ⟨_, { γ with g := some w1.heap.size }, rfl, ⟨_, rfl, rfl⟩, SixS.made hs' (fun h => hnL (hcl 11 h 10 (by decide))), fun j t hj hjt h => ?_⟩
     match j, hj, h with
     | 0, _, h => exact h
     | 1, _, h => exact h
     | 2, _, h => exact h
     | 3, _, h => exact h
     | 4, _, h => exact h
     | 5, _, h => exact h
     | 6, _, h => exact h
     | 7, _, h => exact h
     | 8, _, h => exact h
     | 9, _, h => exact h
     | 10, hj, _ => exact absurd hj hnL
     | 11, _, h => exact h
     | 12, _, h => exact h
     | n + 13, _, h => exact h
    ·obtain ⟨g, hg, e7⟩ := hA.gotL hd 10 7
     obtain ⟨one, v1, hr1, e20⟩ := hA.gotL hd 8 20
     clear hA
     show Oper.wp _ _ _ _ _ _
     obtain ⟨hgB, s0, hs0, -⟩ := hs'.blk g hg
     refine wp_store_set (.tmp 7) (.tmp 20) rfl g s0 one (by simpa [Act.eval] using e7) (by simpa [Act.eval] using e20) hs0 ?_
     intro w3 g1 g2
     exact ⟨_, γ, rfl, trivial, SixS.stored hs' hg hr1 g1 g2, fun j t _ _ h => h⟩
    ·obtain ⟨one, v1, hr1, e21⟩ := hA.gotL hd 9 21
     clear hA
     refine Region.StepG.pure (X := .int .i64 v1) rfl ?_ ⟨one, v1, hr1, rfl⟩ (hs'.other (by decide))
     go_simp
   ·intro γ a w5 L hs' hall hO hA
    show Exit.then _ _ .normal a w5
    obtain ⟨one, v1, hr1, q6⟩ := hA.end' 6 19
    obtain ⟨g7, hg7, q10⟩ := hA.end' 10 7
    have two : ∀ (X : CSet → Int → Value) (v : Value), (∃ one v1, γ.r = some (one, v1) ∧ v = X one v1) → v = X one v1 := fun X v h => by
     obtain ⟨o', v', h1, h2⟩ := h
     rw [hr1] at h1; cases h1; exact h2
    obtain rfl := hA.frame [(13, .int .i64 (i : Int)), (14, .agg #[Value.int IntKind.i64 (low (i : Int)), Value.int IntKind.i64 (high (i : Int)), Value.int IntKind.i64 (i : Int)]), (15, .slice (some ad) 6 c), (16, .int .i64 (i : Int)), (17, .pointer (some (ad.add i))), (18, .string (ofL p)), (19, .tuple #[.agg one.cells.toArray, .int .i64 v1]), (12, .tuple #[.agg one.cells.toArray, .int .i64 v1]), (20, .agg one.cells.toArray), (21, .int .i64 v1), (7, .pointer (some ⟨g7, 0, none⟩)), (8, .int .i64 v1)] (by
     intro q hq
     simp only [List.mem_cons, List.not_mem_nil, or_false] at hq
     rcases hq with rfl | rfl | rfl | rfl | rfl | rfl | rfl | rfl | rfl | rfl | rfl | rfl
     ·exact hA.end' 0 13
     ·exact hA.end' 1 14
     ·exact hA.end' 2 15
     ·exact hA.end' 3 16
     ·exact hA.end' 4 17
     ·exact hA.end' 5 18
     ·exact q6
     ·exact two (fun one v1 => .tuple #[.agg one.cells.toArray, .int .i64 v1]) _ (hA.end' 7 12)
     ·exact two (fun one _ => .agg one.cells.toArray) _ (hA.end' 8 20)
     ·exact two (fun _ v1 => .int .i64 v1) _ (hA.end' 9 21)
     ·exact q10
     ·exact two (fun _ v1 => .int .i64 v1) _ (hA.end' 12 8)) (by kernel_rfl)
    clear hA two q6 q10
    simp only [List.foldl_cons, List.foldl_nil]
    simp only [List.setIfInBounds_toArray, List.set_cons_zero, List.set_cons_succ]
    obtain ⟨hg7B, s7, hs7, hs7r⟩ := hs'.blk g7 hg7
    obtain ⟨v1', hv1'⟩ := hs7r (hall 11 (by decide) (by decide))
    rw [hr1] at hv1'
    obtain ⟨rfl, rfl⟩ : one = s7 ∧ v1 = v1' := by cases hv1'; exact ⟨rfl, rfl⟩
    obtain ⟨hv10, hv11⟩ := hs'.res _ _ hr1
    have HM5 := Lib.hid hs'.m
    have HV11 := Lib.hid hv11
    have HS7 := Lib.hid hs7
    clear hO
    clear hs' hall hr1 hg7 hs7r hv1' hv11 hs7 HM HD hg7B
    clear L γ
    obtain ⟨wv, hw, hwv0, hwv1⟩ := worse_f vd v1 hvd hv10
    go_upto_region 7 with (fail)
    have hoth : ∀ (n : Nat) (L : Nat → Prop) (w' : World), n ≠ 6 → ((L 6 → SixM w w.heap.size b4 (F.put i one) w') ∧ (¬ L 6 → SixM w w.heap.size b4 F w' ∧ SAt w' g7 one)) →
      (((fun j => j = n ∨ L j) 6 → SixM w w.heap.size b4 (F.put i one) w') ∧ (¬ (fun j => j = n ∨ L j) 6 → SixM w w.heap.size b4 F w' ∧ SAt w' g7 one)) :=
     fun n L w' hn h => ⟨fun hl => h.1 (hl.resolve_left (Ne.symm hn)), fun hl => h.2 (fun h6 => hl (.inr h6))⟩
    have hgo : ∀ (L : Nat → Prop) (w' w'' : World), ((L 6 → SixM w w.heap.size b4 (F.put i one) w') ∧ (¬ L 6 → SixM w w.heap.size b4 F w' ∧ SAt w' g7 one)) → Below w'.heap.size w' w'' →
      ((L 6 → SixM w w.heap.size b4 (F.put i one) w'') ∧ (¬ L 6 → SixM w w.heap.size b4 F w'' ∧ SAt w'' g7 one)) :=
     fun L w' w'' h hb => ⟨fun hl => (h.1 hl).goes hb, fun hl => ⟨(h.2 hl).1.goes hb, (h.2 hl).2.below hb⟩⟩
    refine wp_region_ghost (Γ := Unit) (by kernel_rfl) 34 rfl 7 (fun _ j v _ => match j with | 0 => v = .int .i64 (i : Int) | 1 => v = .agg one.cells.toArray | 2 => v = .int .i64 vd | 3 => v = .int .i64 v1 | 4 => v = .int .i64 wv | 5 => v = .pointer (some ⟨b4, 64 * i, none⟩) | _ => True)
     (fun _ L w' => (L 6 → SixM w w.heap.size b4 (F.put i one) w') ∧ (¬ L 6 → SixM w w.heap.size b4 F w' ∧ SAt w' g7 one)) ()
     (by kernel_rfl) (by kernel_rfl) (by kernel_rfl) (by kernel_rfl) (by kernel_rfl) ⟨fun h => h.elim, fun _ => ⟨HM5.out.goes (Below.refl _ _).drew, HS7.out.below (Below.refl _ _).drew⟩⟩ ?_ ?_
    ·refine ⟨fun _ γ a w6 L hs' hA hnL hd hcl hO => ?_, fun _ γ a w6 L hs' hA hnL hd hcl hO => ?_, fun _ γ a w6 L hs' hA hnL hd hcl hO => ?_, fun _ γ a w6 L hs' hA hnL hd hcl hO => ?_, fun _ γ a w6 L hs' hA hnL hd hcl hO => ?_, fun _ γ a w6 L hs' hA hnL hd hcl hO => ?_, fun _ γ a w6 L hs' hA hnL hd hcl hO => ?_, fun h => absurd rfl h, trivial⟩
     ·have e6 : a.tmps.getD 6 undef = .int .i64 (i : Int) := hA.old' 6
      clear hA hO
      refine Region.StepG.pure (X := .int .i64 (i : Int)) rfl ?_ rfl (hoth _ _ _ (by decide) hs')
      go_simp
     ·have e7 : a.tmps.getD 7 undef = .pointer (some ⟨g7, 0, none⟩) := hA.old' 7
      have hn6 : ¬ L 6 := fun h => hnL (hcl 6 h 1 (by decide))
      have hr := (hs'.2 hn6).2.range
      show Oper.wp _ _ _ _ _ _
      exact wp_load_mid 36 (.tmp 7) rfl g7 0 (by simpa [Act.eval] using e7) one.cells _ hr Tryz.underlying36 rfl (by rw [CSet.cells_len]; kernel_rfl) ⟨_, (), rfl, rfl, hoth _ _ _ (by decide) hs', fun j t _ _ h => h⟩
     ·have e5 : a.tmps.getD 5 undef = .int .i64 vd := hO 5 (Region.not_at (by kernel_rfl))
      clear hA hO
      refine Region.StepG.pure (X := .int .i64 vd) rfl ?_ rfl (hoth _ _ _ (by decide) hs')
      go_simp
     ·have e8 : a.tmps.getD 8 undef = .int .i64 v1 := hA.old' 8
      clear hA hO
      refine Region.StepG.pure (X := .int .i64 v1) rfl ?_ rfl (hoth _ _ _ (by decide) hs')
      go_simp
     ·have e24 := hA.gotL hd 2 24
      simp only at e24
      have e25 := hA.gotL hd 3 25
      simp only at e25
      clear hA hO
      show Oper.wp _ _ _ _ _ _
      go_simp
      refine (spec_worse.calls vd v1 wv _ hw).mono ?_
      rintro r w7 ⟨rfl, hb7⟩
      exact ⟨_, rfl, rfl, hgo _ _ _ hs' hb7⟩
     ·have e4 : a.tmps.getD 4 undef = .pointer (some ⟨b4, 0, none⟩) := hA.old' 4
      have e22 := hA.gotL hd 0 22
      simp only at e22
      have i0 : (0 : Int) ≤ (i : Int) := by omega
      have i1 : (i : Int) < 6 := by omega
      have em : 64 * i = i * 64 := Nat.mul_comm _ _
      clear hA hO
      refine Region.StepG.pure (X := .pointer (some ⟨b4, 64 * i, none⟩)) rfl ?_ rfl (hoth _ _ _ (by decide) hs')
      go_simp
     ·have e27 := hA.gotL hd 5 27
      simp only at e27
      have e23 := hA.gotL hd 1 23
      simp only at e23
      obtain ⟨hm, -⟩ := hs'.2 hnL
      have hne := hm.ne
      have hlb := hm.lb
      show Oper.wp _ _ _ _ _ _
      refine wp_store_one (.tmp 27) (.tmp 23) rfl b4 i hlt F one (by simpa [Act.eval] using e27) (by simpa [Act.eval] using e23) hm.f ?_
      intro w7 g1 g2 g3 g4
      exact ⟨_, (), rfl, trivial, ⟨fun _ => ⟨(g3 _ hm.z.lt (by omega)).trans hm.z, g1, hm.below.trans (g2 _ (by omega)), hlb, hne⟩, fun h => absurd (.inl rfl) h⟩, fun j t _ _ h => h⟩
    ·intro γ a w6 L hs' hall hO hA
     have hm := hs'.1 (hall 6 (by decide) (by decide))
     obtain rfl := hA.frame [(22, .int .i64 (i : Int)), (23, .agg one.cells.toArray), (24, .int .i64 vd), (25, .int .i64 v1), (26, .int .i64 wv), (27, .pointer (some ⟨b4, 64 * i, none⟩)), (5, .int .i64 vd)] (by
      intro q hq
      simp only [List.mem_cons, List.not_mem_nil, or_false] at hq
      rcases hq with rfl | rfl | rfl | rfl | rfl | rfl | rfl
      ·exact hA.end' 0 22
      ·exact hA.end' 1 23
      ·exact hA.end' 2 24
      ·exact hA.end' 3 25
      ·exact hA.end' 4 26
      ·exact hA.end' 5 27
      ·exact hO 5 (Region.not_at (by kernel_rfl))) (by kernel_rfl)
     have HM6 := Lib.hid hm
     clear hA hO hs' hall hm hoth hgo
     clear L
     simp only [List.foldl_cons, List.foldl_nil]
     simp only [List.setIfInBounds_toArray, List.set_cons_zero, List.set_cons_succ]
     show Oper.wp _ _ _ _ _ _
     go_simp
     go_wp2
     refine ⟨⟨i + 1, wv, F.put i one, by simp, rfl, by omega, hwv0, HM6.out, fun h k hk hki => ?_⟩, by simp [intOf]; omega⟩
     obtain ⟨a1, a2⟩ := hwv1 h
     unfold CF.put
     by_cases e : k = i
     ·subst e
      rw [if_pos rfl, ← HP.out]
      exact HV11.out a2
     ·rw [if_neg e]
      exact HSEM.out a1 k hk (by omega)
  ·have hi6 : i = 6 := by omega
   subst hi6
   have hfr : vd = 1 → ∀ k (hk : k < ps.length), FieldR (k : Int) ps[k] (F k) := fun h k hk => hsem h k hk (by omega)
   have HF := Lib.hid hfr
   have HM := Lib.hid hM
   have hz := hM.z
   have hr := hM.f.range
   clear hfr hsem hM
   by_cases hv : vd = 1
   ·have HF1 := Lib.hid (HF.out hv)
    subst hv
    clear HF
    go_wp2_with (first
     | (refine wpList_load_mid rfl 38 (.tmp 4) rfl b4 0 rfl (fcells F) _ hr Tryz.underlying38 rfl (by rw [fcells_len]; kernel_rfl) ?_)
     | (refine wpList_store_six rfl _ _ rfl w.heap.size CF.zero F rfl rfl hz ?_; intro w3 g1 g2))
    exact bodyPost_ret (results_ct rfl _ _ _ 38 _ _ _ rfl g1 Tryz.underlying38 rfl (by rw [List.size_toArray, fcells_len]; kernel_rfl)) rfl
     ⟨⟨F, 1, rfl, by decide, fun _ => HF1.out⟩, HM.out.below.trans (g2 _ (by omega))⟩
   ·go_wp2_with (first
     | (refine wpList_exec (.build 38 #[]) rfl rfl (fval CF.zero) (by kernel_rfl) ?_)
     | (refine wpList_store_six rfl _ _ rfl w.heap.size CF.zero CF.zero rfl rfl hz ?_; intro w3 g1 g2))
    exact bodyPost_ret (results_ct rfl _ _ _ 38 _ _ _ rfl g1 Tryz.underlying38 rfl (by rw [List.size_toArray, fcells_len]; kernel_rfl)) rfl
     ⟨⟨CF.zero, vd, rfl, hvd, fun h => absurd h hv⟩, HM.out.below.trans (g2 _ (by omega))⟩
def kbits (k : Nat) : Int := if k = 0 then 3 else if k = 1 then 4 else if k = 2 then 8 else if k = 3 then 16 else if k = 4 then 32 else 192
def takes (o : Int) (k : Nat) : Bool := Go.bits .and .i64 o (kbits k) != 0
theorem takes_c (o : Int) (k : Nat) (hk : k < 6) (w : World) :
  Calls Tryz.prog 80 #[.int .i64 o, .int .i64 (k : Int)] w fun e w' => e = .returned (.bool (takes o k)) ∧ Below w.heap.size w w' := by
 have h : k = 0 ∨ k = 1 ∨ k = 2 ∨ k = 3 ∨ k = 4 ∨ k = 5 := by omega
 have hB : Below w.heap.size w (w.alloc (Obj.cells #[.int .i64 3, .int .i64 4, .int .i64 8, .int .i64 16, .int .i64 32, .int .i64 192] 203)) := (Below.refl _ _).alloc (Nat.le_refl _) _
 rcases h with rfl | rfl | rfl | rfl | rfl | rfl
 all_goals
  unfold takes kbits
  go_enter Tryz.func80, Tryz.ntmps80
  go_wp2
  go_ret
  exact ⟨rfl, hB⟩
end Go.Proofs.YtcjdideliifkhaaGreatDoor
