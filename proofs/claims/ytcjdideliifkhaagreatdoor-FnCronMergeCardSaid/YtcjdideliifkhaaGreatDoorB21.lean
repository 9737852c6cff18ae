import Derived.Test.YtcjdideliifkhaaGreatDoorB20
set_option maxRecDepth 100000
set_option maxHeartbeats 16000000
namespace Go.Proofs.YtcjdideliifkhaaGreatDoor
open Go.RowKit Go.Proofs.YtcjdideliifkhaaGreatDoorW.PrintWords Go.Proofs.YtcjdideliifkhaaGreatDoorW.PrintLast Go.Proofs.YtcjdideliifkhaaGreatDoorW.PrintMore PFnCronTextAfterAnywhere
set_option linter.unusedVariables false
set_option linter.unusedSimpArgs false
def ItemR (kind : Int) (l : Txt) (t : CSet) : Prop :=
 ∃ (lo hi : Int) (star single : Bool) (step hi' : Int),
  ((∃ p, pieces 47 [] l = [p] ∧ EndsR kind p lo hi star single ∧ step = 1 ∧ hi' = hi) ∨
   (∃ p q, pieces 47 [] l = [p, q] ∧ EndsR kind p lo hi star single ∧ Digits q ∧ step = val q ∧ 0 < step ∧ step < 1099511627776 ∧ hi' = if single && !star then high kind else hi)) ∧
  low kind ≤ lo ∧ hi' ≤ high kind ∧ lo ≤ hi' ∧ t.star = (star && decide (step = 1)) ∧ ∀ i : Nat, i < 63 → t.has i = decide (lo ≤ i ∧ (i : Int) ≤ hi' ∧ ((i : Int) - lo) % step = 0)
def ItemQ (kind : Int) (s : ByteArray) (w : World) (e : Ending) (w' : World) : Prop :=
 (∃ (t : CSet) (v : Int), e = .returned (.tuple #[.agg t.cells.toArray, .int .i64 v]) ∧ 0 ≤ v ∧ (v = 1 → ItemR kind (toL s) t)) ∧ Below w.heap.size w w'
def TailR (kind : Int) (p0 : Txt) (q : List Txt) (lo hi : Int) (star single : Bool) (step hi' : Int) : Prop :=
 (q = [] ∧ EndsR kind p0 lo hi star single ∧ step = 1 ∧ hi' = hi) ∨
 (∃ q1, q = [q1] ∧ EndsR kind p0 lo hi star single ∧ Digits q1 ∧ step = val q1 ∧ 0 < step ∧ step < 1099511627776 ∧ hi' = if single && !star then high kind else hi)
structure ItemS (kind : Int) (w : World) (bb g : Nat) (vp : Value) (l : List ByteArray) (w' : World) : Prop where
 box : w'.heap[bb]? = some (.cells #[Value.int IntKind.i64 (low kind), Value.int IntKind.i64 (high kind), Value.int IntKind.i64 kind] 169 (0, 0))
 set : SAt w' g CSet.zero
 row : Strs w' vp l
 below : Below w.heap.size w w'
 lb : w.heap.size ≤ bb
 lg : bb < g
theorem ItemS.goes {kind : Int} {w : World} {bb g : Nat} {vp : Value} {l : List ByteArray} {w' w'' : World} (h : ItemS kind w bb g vp l w') (hb : Below w'.heap.size w' w'') : ItemS kind w bb g vp l w'' :=
 ⟨blk_below h.box hb, h.set.below hb, h.row.below hb, below_step h.below hb, h.lb, h.lg⟩
def ItemL (kind : Int) (w : World) (l : Nat) (hi' step : Int) (g : Nat) (iv : Value) (wr : World) : Prop :=
 ∃ n : Nat, iv = .int .i64 (n : Int) ∧ l ≤ n ∧ (n : Int) ≤ hi' + 1 ∧ SAt wr g ⟨false, fun i => decide (l ≤ i ∧ i < n ∧ ((i : Int) - l) % step = 0)⟩ ∧ SAt wr (w.heap.size + 1) CSet.zero ∧ Below w.heap.size w wr
theorem item_c (kind : Int) (hk0 : 0 ≤ kind) (hk1 : kind ≤ 5) (s : ByteArray) (hs : s.size ≤ 4294967296) (w : World) :
  Calls Tryz.prog 112 #[.agg #[.int .i64 (low kind), .int .i64 (high kind), .int .i64 kind], .string s] w (ItemQ kind s w) := by
 have hne := pieces_ne 47 (toL s) []
 have hpc := fun w => pieces_c s 47 hs w
 have hmem := fun e h => pieces_mem_len 47 (toL s) e h
 have HI : ∀ t, ItemR kind (toL s) t = (∃ (lo hi : Int) (star single : Bool) (step hi' : Int),
  ((∃ p, pieces 47 [] (toL s) = [p] ∧ EndsR kind p lo hi star single ∧ step = 1 ∧ hi' = hi) ∨
   (∃ p q, pieces 47 [] (toL s) = [p, q] ∧ EndsR kind p lo hi star single ∧ Digits q ∧ step = val q ∧ 0 < step ∧ step < 1099511627776 ∧ hi' = if single && !star then high kind else hi)) ∧
  low kind ≤ lo ∧ hi' ≤ high kind ∧ lo ≤ hi' ∧ t.star = (star && decide (step = 1)) ∧ ∀ i : Nat, i < 63 → t.has i = decide (lo ≤ i ∧ (i : Int) ≤ hi' ∧ ((i : Int) - lo) % step = 0)) := fun _ => rfl
 generalize pieces 47 [] (toL s) = ps at hpc hne hmem HI
 obtain ⟨p0, q, rfl⟩ := List.exists_cons_of_ne_nil hne
 have hp0 : (ofL p0).size ≤ 4294967296 := by have := hmem p0 (by simp); rw [toL_len] at this; rw [ofL_size]; omega
 obtain ⟨lo, hi, star, single, v, hv0, hv1, hec⟩ := ends_c kind (ofL p0) hp0
 rw [toL_ofL] at hv1
 have hmemH := Lib.hid (fun e (h : e ∈ q) => hmem e (List.mem_cons_of_mem _ h))
 have HPC := Lib.hid hpc
 have HEC := Lib.hid hec
 have HV1 := Lib.hid hv1
 have HII := Lib.hid HI
 clear hpc hec hv1 HI hmem hne
 go_enter Tryz.func112, Tryz.ntmps112
 go_upto_region 2 with (first
  | (refine wpList_alloc_set rfl rfl ?_; intro g hg w1 hz hb hlt)
  | (go_at_call 111; refine (HPC.out _).mono ?_; rintro e w2 ⟨vp, rfl, hR, hb2⟩))
 have hg' : g = w.heap.size + 1 := by rw [hg]; simp
 clear hg
 subst hg'
 have hst : ItemS kind w w.heap.size (w.heap.size + 1) vp ((p0 :: q).map ofL) w2 := by
  have h1 : (w.alloc (Obj.cells #[Value.int IntKind.i64 (low kind), Value.int IntKind.i64 (high kind), Value.int IntKind.i64 kind] 169)).heap[w.heap.size]? = some (.cells #[Value.int IntKind.i64 (low kind), Value.int IntKind.i64 (high kind), Value.int IntKind.i64 kind] 169 (0, 0)) := blk_new w _
  have h2 := below_alloc (Below.refl w.heap.size w) (Obj.cells #[Value.int IntKind.i64 (low kind), Value.int IntKind.i64 (high kind), Value.int IntKind.i64 kind] 169)
  exact ⟨blk_below (blk_below h1 (by simpa using hb)) hb2, hz.below hb2, Strs.of hR, below_step (below_step h2 (by simpa using hb)) hb2, Nat.le_refl _, by omega⟩
 clear hR hb2 hz hb hlt
 clear w1
 have HS := Lib.hid hst
 obtain ⟨A, c, rfl, hrow⟩ := hst.row
 clear hst
 by_cases hq : 2 < ((p0 :: q).map ofL).length
 ·clear hrow HPC HEC HII HV1
  generalize ((p0 :: q).map ofL).length = n at *
  have hn2 : (2 : Int) < (n : Int) := by omega
  have hz := HS.out.set
  go_wp2_with (first
   | (refine wpList_exec (.build 36 #[]) rfl rfl (.agg CSet.zero.cells.toArray) (by kernel_rfl) ?_)
   | (refine wpList_store_set rfl _ _ rfl (w.heap.size + 1) CSet.zero CSet.zero rfl rfl hz ?_; intro w3 g1 g2 g3 g4))
  exact bodyPost_ret (results_ct rfl _ _ _ 36 _ _ _ rfl g1 Tryz.underlying36 rfl (by rw [List.size_toArray, CSet.cells_len]; kernel_rfl)) rfl
   ⟨⟨CSet.zero, 0, rfl, by decide, fun h => by cases h⟩, HS.out.below.trans (g2 _ (by omega))⟩
 ·obtain ⟨ad, rfl, h0⟩ := hrow 0 (by simp)
  rw [Addr.add_zero'] at h0
  rw [show ((p0 :: q).map ofL)[0] = ofL p0 from rfl] at h0
  have HR := Lib.hid (show ∀ x, q = [x] → w2.cell? (ad.add 1) = some (.string (ofL x)) from fun x hx => by
   subst hx
   obtain ⟨ad', e, h1⟩ := hrow 1 (by simp)
   cases e
   exact h1)
  clear hrow HPC
  have hq2 : q.length ≤ 1 := by simp at hq; omega
  have hn0 : 0 < ((p0 :: q).map ofL).length := by simp
  have hln : ((p0 :: q).map ofL).length = q.length + 1 := by simp
  generalize hn : ((p0 :: q).map ofL).length = n at *
  have hn2 : ¬ (2 : Int) < (n : Int) := by omega
  have HLN := Lib.hid hln
  clear hln hn
  go_upto_region 4 with (fail)
  refine wp_region_det (F := ?F) (by kernel_rfl) 97 rfl 16 [(24, .agg #[Value.int IntKind.i64 (low kind), Value.int IntKind.i64 (high kind), Value.int IntKind.i64 kind]), (25, .slice (some ad) n c), (26, .pointer (some ad)), (27, .string (ofL p0)), (28, .tuple #[Value.int IntKind.i64 lo, Value.int IntKind.i64 hi, Value.bool star, Value.bool single, Value.int IntKind.i64 v]), (23, .tuple #[Value.int IntKind.i64 lo, Value.int IntKind.i64 hi, Value.bool star, Value.bool single, Value.int IntKind.i64 v]), (29, .int .i64 lo), (30, .int .i64 hi), (31, .bool star), (32, .bool single), (33, .int .i64 v), (7, .int .i64 lo), (8, .int .i64 hi), (9, .bool star), (10, .bool single), (11, .int .i64 v)] ?hF (by kernel_rfl) (fun w' => ItemS kind w w.heap.size (w.heap.size + 1) (.slice (some ad) n c) ((p0 :: q).map ofL) w' ∧ w'.cell? ad = some (.string (ofL p0))) (fun w1 w' h hb => ⟨h.1.goes hb, pw_cell_below hb h.2⟩) ⟨HS.out.goes (Below.refl _ _).drew, h0⟩ ?_ ?_
  case hF =>
   simp only [List.foldl_cons, List.foldl_nil, List.setIfInBounds_toArray, List.set_cons_zero, List.set_cons_succ]
   rfl
  ·and_intros
   all_goals first | intro _ w1 hs' | exact trivial
   all_goals
    have s0 := blk_cell hs'.1.box 0
    have s1 := blk_cell hs'.1.box 1
    have s2 := blk_cell hs'.1.box 2
    have s3 := hs'.2
    have hu169 := Tryz.underlying169
    have hb := Below.refl w1.heap.size w1
    change Oper.wp _ _ _ _ _ _
    go_simp
   refine (HEC.out _).mono ?_
   rintro e w5 ⟨rfl, hb⟩
   exact ⟨rfl, hb⟩
  ·intro w4 hs'
   show Exit.then _ _ .normal _ w4
   have HS4 := Lib.hid hs'.1
   have HR4 := Lib.hid (show ∀ x, q = [x] → w4.cell? (ad.add 1) = some (.string (ofL x)) from fun x hx => by
    obtain ⟨A', c', e', hr'⟩ := hs'.1.row
    cases e'
    subst hx
    obtain ⟨ad', e, h1⟩ := hr' 1 (by simp)
    cases e
    exact h1)
   clear hs' HS HR h0
   go_upto_if 36 with (fail)
   go_cut [8, 11, 12, 13, 14] (fun v8 v11 v12 v13 v14 wc => ∃ (hi' v' step : Int), v8 = .int .i64 hi' ∧ v11 = .int .i64 v' ∧ v12 = .int .i64 step ∧ 0 ≤ v' ∧ (v' = 1 → TailR kind p0 q lo hi star single step hi') ∧ ItemS kind w w.heap.size (w.heap.size + 1) (.slice (some ad) n c) ((p0 :: q).map ofL) wc)
   case first =>
    match q, hq2, HV1, HS4, HR4, HLN, hmemH with
    | [], hq2, HV1, HS4, HR4, HLN, hmem =>
     clear HEC HII HR4
     have hn' : ((n : Int) == 2) = false := by have := HLN.out; simp at this; subst this; rfl
     clear HLN
     go_wp2
     go_meet
     case rel => exact ⟨hi, v, 1, rfl, rfl, rfl, hv0, fun h => .inl ⟨rfl, HV1.out h, rfl, rfl⟩, HS4.out⟩
    | [q1], hq2, HV1, HS4, HR4, HLN, hmem =>
     have hq1 : (ofL q1).size ≤ 4294967296 := by have := hmem.out q1 (by simp); rw [toL_len] at this; rw [ofL_size]; omega
     obtain ⟨sn, sv, hsv0, hsv1, hsc⟩ := step_c (ofL q1) hq1
     rw [toL_ofL] at hsv1
     obtain ⟨wv, hw, hwv0, hwv1⟩ := worse_f v sv hv0 hsv0
     have hwc := fun w => spec_worse.calls v sv wv w hw
     have HSC := Lib.hid hsc
     have HWC := Lib.hid hwc
     have HSV := Lib.hid hsv1
     have HWV := Lib.hid hwv1
     have h1 : w4.cell? ⟨ad.block, ad.off + 1, none⟩ = some (.string (ofL q1)) := HR4.out q1 rfl
     have hn1 : 1 < n := by have := HLN.out; simp at this; omega
     have hn' : ((n : Int) == 2) = true := by have := HLN.out; simp at this; subst this; rfl
     clear hsc hwc hsv1 hwv1 hw HEC HII HR4
     clear HLN
     have hrel : ∀ hi' wc, hi' = (if single && !star then high kind else hi) → ItemS kind w w.heap.size (w.heap.size + 1) (.slice (some ad) n c) ([p0, q1].map ofL) wc →
       ∃ (hi2 v' step : Int), (Value.int IntKind.i64 hi' = .int .i64 hi2) ∧ (Value.int IntKind.i64 wv = .int .i64 v') ∧ (Value.int IntKind.i64 sn = .int .i64 step) ∧ 0 ≤ v' ∧ (v' = 1 → TailR kind p0 [q1] lo hi star single step hi2) ∧ ItemS kind w w.heap.size (w.heap.size + 1) (.slice (some ad) n c) ([p0, q1].map ofL) wc :=
      fun hi' wc h1 h2 => ⟨hi', wv, sn, rfl, rfl, rfl, hwv0, fun h => by
       obtain ⟨a1, a2⟩ := HWV.out h
       obtain ⟨b1, b2, b3, b4⟩ := HSV.out a2
       exact .inr ⟨q1, rfl, HV1.out a1, b1, b2, b3, b4, h1⟩, h2⟩
     have HREL := Lib.hid hrel
     clear hrel
     cases single <;> cases star
     all_goals
      go_wp2_with (first
       | (go_at_call 144; refine (HSC.out _).mono ?_; rintro e w5 ⟨rfl, hb5⟩; have HS5 := Lib.hid (HS4.out.goes hb5))
       | (go_at_call 28; refine (HWC.out _).mono ?_; rintro e w6 ⟨rfl, hb6⟩; have HS6 := Lib.hid (HS5.out.goes hb6); have s1 : w6.cell? ⟨w.heap.size, 1, none⟩ = some (.int .i64 (high kind)) := (blk_cell HS6.out.box 1).trans rfl))
      go_meet
      case rel => exact HREL.out _ _ rfl HS6.out
   case rest =>
    obtain ⟨hi', v', step, rfl, rfl, rfl, hv'0, htail, hS⟩ := hcut
    clear HS4 HR4 HEC HLN HV1
    have HS := Lib.hid hS
    have hz := hS.set
    have hb0 := (blk_cell hS.box 0).trans (show _ = some (.int .i64 (low kind)) from rfl)
    have hb1 := (blk_cell hS.box 1).trans (show _ = some (.int .i64 (high kind)) from rfl)
    clear hS
    by_cases hv : v' = 1
    ·have ht := htail hv
     clear htail
     subst hv
     have HT := Lib.hid ht
     have hst : 0 < step := by rcases ht with ⟨_, _, h, _⟩ | ⟨_, _, _, _, _, h, _⟩ <;> omega
     clear ht
     by_cases c : lo < low kind ∨ high kind < hi' ∨ hi' < lo
     ·clear HT
      by_cases c1 : lo < low kind
      ·go_wp2_with (first
        | (refine wpList_exec (.build 36 #[]) rfl rfl (.agg CSet.zero.cells.toArray) (by kernel_rfl) ?_)
        | (refine wpList_store_set rfl _ _ rfl (w.heap.size + 1) CSet.zero CSet.zero rfl rfl hz ?_; intro w3 g1 g2 g3 g4))
       exact bodyPost_ret (results_ct rfl _ _ _ 36 _ _ _ rfl g1 Tryz.underlying36 rfl (by rw [List.size_toArray, CSet.cells_len]; kernel_rfl)) rfl
        ⟨⟨CSet.zero, 0, rfl, by decide, fun h => by cases h⟩, HS.out.below.trans (g2 _ (by omega))⟩
      ·by_cases c2 : high kind < hi'
       ·clear c
        go_wp2_with (first
         | (refine wpList_exec (.build 36 #[]) rfl rfl (.agg CSet.zero.cells.toArray) (by kernel_rfl) ?_)
         | (refine wpList_store_set rfl _ _ rfl (w.heap.size + 1) CSet.zero CSet.zero rfl rfl hz ?_; intro w3 g1 g2 g3 g4))
        exact bodyPost_ret (results_ct rfl _ _ _ 36 _ _ _ rfl g1 Tryz.underlying36 rfl (by rw [List.size_toArray, CSet.cells_len]; kernel_rfl)) rfl
         ⟨⟨CSet.zero, 0, rfl, by decide, fun h => by cases h⟩, HS.out.below.trans (g2 _ (by omega))⟩
       ·have c3 : hi' < lo := by rcases c with h | h | h; exact absurd h c1; exact absurd h c2; exact h
        clear c
        go_wp2_with (first
         | (refine wpList_exec (.build 36 #[]) rfl rfl (.agg CSet.zero.cells.toArray) (by kernel_rfl) ?_)
         | (refine wpList_store_set rfl _ _ rfl (w.heap.size + 1) CSet.zero CSet.zero rfl rfl hz ?_; intro w3 g1 g2 g3 g4))
        exact bodyPost_ret (results_ct rfl _ _ _ 36 _ _ _ rfl g1 Tryz.underlying36 rfl (by rw [List.size_toArray, CSet.cells_len]; kernel_rfl)) rfl
         ⟨⟨CSet.zero, 0, rfl, by decide, fun h => by cases h⟩, HS.out.below.trans (g2 _ (by omega))⟩
     ·have hl0 : 0 ≤ low kind := by unfold low; split <;> (try split) <;> omega
      have hh0 : high kind ≤ 59 := by unfold high; split <;> (try split) <;> (try split) <;> (try split) <;> omega
      have c1 : ¬ lo < low kind := fun h => c (.inl h)
      have c2 : ¬ high kind < hi' := fun h => c (.inr (.inl h))
      have c3 : ¬ hi' < lo := fun h => c (.inr (.inr h))
      clear c
      go_wp2_with (first
       | (refine wpList_alloc_set rfl rfl ?_; intro g hg w1 hz1 hb hlt; have hS1 := Lib.hid (HS.out.goes hb); have hgl : w.heap.size + 1 < g := (by have := HS.out.set.lt; omega); clear hg hlt hb hz HS))
      obtain ⟨l, rfl⟩ : ∃ l : Nat, lo = (l : Int) := ⟨lo.toNat, by omega⟩
      have hR := Lib.hid (show ItemL kind w l hi' step g (.int .i64 (l : Int)) w1 from ⟨l, rfl, Nat.le_refl _, by omega, hz1.congr rfl (fun i hi => by
       show false = _
       rw [eq_comm, decide_eq_false_iff_not]; omega), hS1.out.set, hS1.out.below⟩)
      clear hz1 hS1 hb0 hb1
      go_loopw [16] (fun iv wr => ItemL kind w l hi' step g iv wr) (fun iv _ => (hi' + 1 - intOf iv).toNat)
      case atStart => exact hR.out
      case round =>
       obtain ⟨n', rfl, hn1, hn2', hA, hC, hW⟩ := hrel
       clear hR
       by_cases hlt : (n' : Int) ≤ hi'
       ·have hn63 : n' < 63 := by omega
        have hi63 : (n' : Int) < 63 := by omega
        have hc := hA.has n' hn63
        have hf := hA.frozen (1 + n')
        have hst0 : ¬ step = 0 := by omega
        have htm : Int.tmod ((n' : Int) - l) step = ((n' : Int) - l) % step := Int.tmod_eq_emod_of_nonneg (by omega)
        have HN := Lib.hid (show ∀ v : Bool, v = decide (((n' : Int) - l) % step = 0) → ItemL kind w l hi' step g (.int .i64 ((n' : Int) + 1)) (wr.setCell ⟨g, 1 + n', none⟩ (.bool v)) from fun v hv =>
         ⟨n' + 1, by simp, by omega, by omega, (hA.setHas n' v).congr rfl (fun i hi => by
          show (if i = n' then v else _) = _
          by_cases c : i = n'
          ·subst c; rw [if_pos rfl, hv]
           exact decide_eq_decide.2 ⟨fun h => ⟨by omega, by omega, h⟩, fun h => h.2.2⟩
          ·rw [if_neg c]
           exact decide_eq_decide.2 ⟨fun ⟨a1, a2, a3⟩ => ⟨a1, by omega, a3⟩, fun ⟨a1, a2, a3⟩ => ⟨a1, by omega, a3⟩⟩), hC.far (by simp; omega) _, hW.setCell (by simp; omega) _⟩)
        clear hA hC hW HT
        go_wp2
        exact ⟨HN.out _ rfl, by simp [intOf]; omega⟩
       ·have hn' : (n' : Int) = hi' + 1 := by omega
        have hfin : ∀ b : Bool, b = (star && decide (step = 1)) → ItemR kind (toL s) ⟨b, fun i => decide (l ≤ i ∧ i < n' ∧ ((i : Int) - l) % step = 0)⟩ := fun b hb => by
         rw [HII.out]
         refine ⟨(l : Int), hi, star, single, step, hi', ?_, by omega, by omega, by omega, hb, fun i hi => ?_⟩
         ·rcases HT.out with ⟨a1, a2, a3, a4⟩ | ⟨q1, a1, a2, a3, a4, a5, a6, a7⟩
          ·exact .inl ⟨p0, by rw [a1], a2, a3, a4⟩
          ·exact .inr ⟨p0, q1, by rw [a1], a2, a3, a4, a5, a6, a7⟩
         ·exact decide_eq_decide.2 ⟨fun ⟨a1, a2, a3⟩ => ⟨by omega, by omega, a3⟩, fun ⟨a1, a2, a3⟩ => ⟨by omega, by omega, a3⟩⟩
        have HFIN := Lib.hid hfin
        have hcs := hA.star
        have hf := hA.frozen 0
        have HA := Lib.hid (fun v : Bool => hA.setStar v)
        have HC := Lib.hid (fun v : Value => hC.far (p := ⟨g, 0, none⟩) (by simp; omega) v)
        have HW := Lib.hid (fun v : Value => hW.setCell (p := ⟨g, 0, none⟩) (by simp; omega) v)
        clear hA hC hW HT hfin
        cases star
        ·go_upto_region 21 with (fail)
         have hA := HA.out false
         have hC := HC.out (.bool false)
         have hW := HW.out (.bool false)
         have hr := hA.range
         have hI := Lib.hid (HFIN.out false rfl)
         generalize wr.setCell ⟨g, 0, none⟩ (.bool false) = W2 at *
         go_wp2_with (first
          | (refine wpList_load_mid rfl 36 _ rfl g 0 rfl _ _ hr Tryz.underlying36 rfl (by rw [CSet.cells_len]; kernel_rfl) ?_)
          | (refine wpList_store_set rfl _ _ rfl (w.heap.size + 1) CSet.zero _ rfl rfl hC ?_; intro w3 g1 g2 g3 g4))
         exact bodyPost_ret (results_ct rfl _ _ _ 36 _ _ _ rfl g1 Tryz.underlying36 rfl (by rw [List.size_toArray, CSet.cells_len]; kernel_rfl)) rfl
          ⟨⟨_, 1, rfl, by decide, fun _ => hI.out⟩, hW.trans (g2 _ (by omega))⟩
        ·go_upto_region 21 with (fail)
         have hA := HA.out (step == 1)
         have hC := HC.out (.bool (step == 1))
         have hW := HW.out (.bool (step == 1))
         have hr := hA.range
         have hI := Lib.hid (HFIN.out (step == 1) rfl)
         generalize wr.setCell ⟨g, 0, none⟩ (.bool (step == 1)) = W2 at *
         go_wp2_with (first
          | (refine wpList_load_mid rfl 36 _ rfl g 0 rfl _ _ hr Tryz.underlying36 rfl (by rw [CSet.cells_len]; kernel_rfl) ?_)
          | (refine wpList_store_set rfl _ _ rfl (w.heap.size + 1) CSet.zero _ rfl rfl hC ?_; intro w3 g1 g2 g3 g4))
         exact bodyPost_ret (results_ct rfl _ _ _ 36 _ _ _ rfl g1 Tryz.underlying36 rfl (by rw [List.size_toArray, CSet.cells_len]; kernel_rfl)) rfl
          ⟨⟨_, 1, rfl, by decide, fun _ => hI.out⟩, hW.trans (g2 _ (by omega))⟩
    ·clear htail
     go_wp2_with (first
      | (refine wpList_exec (.build 36 #[]) rfl rfl (.agg CSet.zero.cells.toArray) (by kernel_rfl) ?_)
      | (refine wpList_store_set rfl _ _ rfl (w.heap.size + 1) CSet.zero CSet.zero rfl rfl hz ?_; intro w3 g1 g2 g3 g4))
     exact bodyPost_ret (results_ct rfl _ _ _ 36 _ _ _ rfl g1 Tryz.underlying36 rfl (by rw [List.size_toArray, CSet.cells_len]; kernel_rfl)) rfl
      ⟨⟨CSet.zero, v', rfl, hv'0, fun h => absurd h hv⟩, HS.out.below.trans (g2 _ (by omega))⟩
def FieldP (kind : Int) : List Txt → CSet → CSet → Prop
 | [], acc, t => t = acc
 | p :: ps, acc, t => p ≠ [] ∧ ∃ one, ItemR kind p one ∧ FieldP kind ps (acc.union one) t
def FieldR (kind : Int) (l : Txt) (t : CSet) : Prop := FieldP kind (pieces 44 [] l) CSet.zero t
def FieldQ (kind : Int) (s : ByteArray) (w : World) (e : Ending) (w' : World) : Prop :=
 (∃ (t : CSet) (v : Int), e = .returned (.tuple #[.agg t.cells.toArray, .int .i64 v]) ∧ 0 ≤ v ∧ (v = 1 → FieldR kind (toL s) t)) ∧ Below w.heap.size w w'
structure FieldM (kind : Int) (w : World) (g4 g6 : Nat) (vp : Value) (l : List ByteArray) (acc : CSet) (w' : World) : Prop where
 st : ItemS kind w w.heap.size g4 vp l w'
 acc : SAt w' g6 acc
 ne : g4 < g6
 nb : ∀ ad n c, vp = .slice (some ad) n c → g6 < ad.block
theorem FieldM.goes {kind : Int} {w : World} {g4 g6 : Nat} {vp : Value} {l : List ByteArray} {acc : CSet} {w' w'' : World} (h : FieldM kind w g4 g6 vp l acc w') (hb : Below w'.heap.size w' w'') : FieldM kind w g4 g6 vp l acc w'' :=
 ⟨h.st.goes hb, h.acc.below hb, h.ne, h.nb⟩
theorem FieldM.put {kind : Int} {w : World} {g4 g6 : Nat} {vp : Value} {l : List ByteArray} {acc acc' : CSet} {w' w'' : World} (h : FieldM kind w g4 g6 vp l acc w') (ho : SAt w'' g6 acc')
  (hb : ∀ B, B ≤ g6 → Below B w' w'') (hoth : ∀ i, i < w'.heap.size → i ≠ g6 → w''.heap[i]? = w'.heap[i]?) (hsz : w''.heap.size = w'.heap.size) : FieldM kind w g4 g6 vp l acc' w'' := by
 have hlg := h.st.lg
 have hlb := h.st.lb
 have hne := h.ne
 refine ⟨⟨(hoth _ (blk_lt h.st.box) (by omega)).trans h.st.box, (hoth _ h.st.set.lt (by omega)).trans h.st.set, ?_, h.st.below.trans (hb _ (by omega)), hlb, hlg⟩, ho, hne, h.nb⟩
 obtain ⟨A, c, rfl, hr⟩ := h.st.row
 refine ⟨A, c, rfl, fun i hi => ?_⟩
 obtain ⟨ad, e, hc⟩ := hr i hi
 refine ⟨ad, e, ?_⟩
 subst e
 have hnb := h.nb ad _ _ rfl
 have hbl : (ad.add i).block = ad.block := by unfold Addr.add; split <;> rfl
 rw [World.cell?_of_block (w := w') (hoth _ (World.block_lt_of_cell? w' _ hc) (by rw [hbl]; omega))]
 exact hc
def FieldL (kind : Int) (w : World) (g4 g6 : Nat) (vp : Value) (ps : List Txt) (v7 iv : Value) (wr : World) : Prop :=
 ∃ (i : Nat) (vd : Int) (acc : CSet), iv = .int .i64 (i : Int) ∧ v7 = .int .i64 vd ∧ i ≤ ps.length ∧ 0 ≤ vd ∧ FieldM kind w g4 g6 vp (ps.map ofL) acc wr ∧ (vd = 1 → ∀ t, FieldP kind (ps.drop i) acc t → FieldP kind ps CSet.zero t)
theorem field_c (kind : Int) (hk0 : 0 ≤ kind) (hk1 : kind ≤ 5) (s : ByteArray) (hs : s.size ≤ 4294967296) (w : World) :
  Calls Tryz.prog 83 #[.agg #[.int .i64 (low kind), .int .i64 (high kind), .int .i64 kind], .string s] w (FieldQ kind s w) := by
 have hpc := fun w => pieces_c s 44 hs w
 have hmem := fun e h => pieces_mem_len 44 (toL s) e h
 have hplen := pieces_len 44 (toL s) []
 have HI : ∀ t, FieldR kind (toL s) t = FieldP kind (pieces 44 [] (toL s)) CSet.zero t := fun _ => rfl
 rw [toL_len] at hmem hplen
 generalize pieces 44 [] (toL s) = ps at hpc hmem HI hplen
 have hps : ∀ p ∈ ps, (ofL p).size ≤ 4294967296 := fun p hp => by have := hmem p hp; rw [ofL_size]; omega
 have HPC := Lib.hid hpc
 have HPS := Lib.hid hps
 have HII := Lib.hid HI
 clear hpc HI hmem hps
 go_enter Tryz.func83, Tryz.ntmps83
 go_upto_region 1 with (refine wpList_alloc_set rfl rfl ?_; intro g4 hg w1 hz hb hlt)
 have hg' : g4 = w.heap.size + 1 := by rw [hg]; simp
 clear hg
 have hbox : w1.heap[w.heap.size]? = some (.cells #[Value.int IntKind.i64 (low kind), Value.int IntKind.i64 (high kind), Value.int IntKind.i64 kind] 169 (0, 0)) := blk_below (blk_new w _) (by simpa using hb)
 have hbel : Below w.heap.size w w1 := below_step (below_alloc (Below.refl w.heap.size w) (Obj.cells #[Value.int IntKind.i64 (low kind), Value.int IntKind.i64 (high kind), Value.int IntKind.i64 kind] 169)) (by simpa using hb)
 have hlg : w.heap.size < g4 := by omega
 clear hb
 subst hg'
 clear hlg
 go_upto_region 2 with (refine wpList_alloc_set rfl rfl ?_; intro g6 hg w1b hzb hb hltb)
 have hg6 : w.heap.size + 1 < g6 := by omega
 have hg6' : g6 < w1b.heap.size := hltb
 replace hbel := below_step hbel hb
 replace hbox := blk_below hbox hb
 replace hz := hz.below hb
 clear hg hb hlt
 go_wp2_with (go_at_call 111; refine (HPC.out _).mono ?_; rintro e w2 ⟨vp, rfl, hR, hb2⟩; have HR := Lib.hid (Strs.of hR); have HNB := Lib.hid (Strs.base hR); have HB2 := Lib.hid hb2; have hvl := (Strs.of hR).isSlice; obtain ⟨A, c, rfl⟩ := hvl; clear hR hb2)
 have hM : FieldM kind w (w.heap.size + 1) g6 (Value.slice A (List.map ofL ps).length c) (ps.map ofL) CSet.zero w2 :=
  ⟨⟨blk_below hbox HB2.out, hz.below HB2.out, HR.out, below_step hbel HB2.out, Nat.le_refl _, by omega⟩, hzb.below HB2.out, hg6, fun ad n c e => Nat.lt_of_lt_of_le hg6' (HNB.out ad n c e)⟩
 have hL := Lib.hid (show FieldL kind w (w.heap.size + 1) g6 (Value.slice A (List.map ofL ps).length c) ps (.int .i64 1) (.int .i64 0) w2 from
  ⟨0, 1, CSet.zero, rfl, rfl, Nat.zero_le _, by decide, hM, fun _ t h => by simpa using h⟩)
 clear hM hbox hz hbel hg6 hg6' hzb hltb HR HB2 HPC HNB
 have hpl : (ps.map ofL).length = ps.length := by simp
 generalize hnp : (ps.map ofL).length = np at *
 clear hnp
 subst hpl
 go_loopw [7, 15] (fun v7 iv wr => FieldL kind w (w.heap.size + 1) g6 (Value.slice A ps.length c) ps v7 iv wr) (fun _ iv _ => ((ps.length : Int) - intOf iv).toNat)
 case atStart => exact hL.out
 case round =>
  obtain ⟨i, vd, acc, rfl, rfl, hi, hvd, hM, hsem⟩ := hrel
  clear hL
  by_cases hlt : i < ps.length
  ·obtain ⟨A', c', e', hr⟩ := hM.st.row
   injection e' with e1 e2 e3
   subst e1 e3
   obtain ⟨ad, e, hc⟩ := hr i (by simpa using hlt)
   subst e
   replace hc : wr.cell? (ad.add i) = some (.string (ofL ps[i])) := by rw [hc]; simp
   have hmem : ps[i] ∈ ps := List.getElem_mem _
   have hsz := HPS.out _ hmem
   have hdrop : ps.drop i = ps[i] :: ps.drop (i + 1) := List.drop_eq_getElem_cons hlt
   generalize ps[i] = p at hc hsz hdrop
   clear hr e2 hmem
   have HM := Lib.hid hM
   have HSEM := Lib.hid hsem
   have HD := Lib.hid hdrop
   clear hM hsem hdrop
   have hi0 : (0 : Int) ≤ (i : Int) := by omega
   have hi1 : (i : Int) < (ps.length : Int) := by omega
   by_cases hp : p = []
   ·subst hp
    have hpe : ((ofL []).toList == ([] : List UInt8)) = true := by rw [toList_toL, toL_ofL]; rfl
    obtain ⟨wv, hw, hwv0, hwv1⟩ := worse_f vd 2 hvd (by decide)
    go_wp2_with (go_at_call 28; refine (spec_worse.calls vd 2 wv _ hw).mono ?_; rintro e w9 ⟨rfl, hb9⟩; have HM9 := Lib.hid (HM.out.goes hb9); clear hb9)
    refine ⟨⟨i + 1, wv, acc, by simp, rfl, by omega, hwv0, HM9.out, fun h => absurd (hwv1 h).2 (by decide)⟩, by simp [intOf]; omega⟩
   ·have hpe : ((ofL p).toList == ([] : List UInt8)) = false := by rw [toList_toL, toL_ofL]; simp [hp]
    have hb0 := (blk_cell HM.out.st.box 0).trans (show _ = some (.int .i64 (low kind)) from rfl)
    have hb1 := (blk_cell HM.out.st.box 1).trans (show _ = some (.int .i64 (high kind)) from rfl)
    have hb2 := (blk_cell HM.out.st.box 2).trans (show _ = some (.int .i64 kind) from rfl)
    have hu169 := Tryz.underlying169
    go_wp2_with (first
     | (go_at_call 112; refine (item_c kind hk0 hk1 (ofL p) hsz _).mono ?_; rintro e w5 ⟨⟨one, v1, rfl, hv1, hrel1⟩, hb5⟩; have HM5 := Lib.hid (HM.out.goes hb5); have HREL := Lib.hid hrel1; clear hrel1 hb5)
     | (refine wpList_alloc_set rfl rfl ?_; intro g10 hg10 w6 hz10 hb6 hlt10; have HG := Lib.hid hg10; have HB6 := Lib.hid hb6; clear hg10 hb6 hlt10)
     | (refine wpList_store_set rfl (.tmp 10) _ rfl g10 CSet.zero one rfl rfl hz10 ?_; intro w7 ho7 hbo7 hoth7 hsz7; have HM7 := Lib.hid (HM5.out.goes (HB6.out.trans (hbo7 _ (by rw [HG.out]; exact Nat.le_refl _)))); have hr6 := HM7.out.acc.range; have hr10 := ho7.range; clear hbo7 hoth7 hsz7 HB6 HG hz10)
     | (refine wpList_load_mid rfl 36 (.tmp 6) rfl g6 0 rfl acc.cells _ hr6 Tryz.underlying36 rfl (by rw [CSet.cells_len]; kernel_rfl) ?_)
     | (refine wpList_load_mid rfl 36 (.tmp 10) rfl g10 0 rfl one.cells _ hr10 Tryz.underlying36 rfl (by rw [CSet.cells_len]; kernel_rfl) ?_)
     | (go_at_call 113; refine (union_c acc one _).mono ?_; rintro e w8 ⟨rfl, hb8⟩; have HM8 := Lib.hid (HM7.out.goes hb8); clear hb8)
     | (go_at_call 28; obtain ⟨wv, hw, hwv0, hwv1⟩ := worse_f vd v1 hvd hv1; refine (spec_worse.calls vd v1 wv _ hw).mono ?_; rintro e w9 ⟨rfl, hb9⟩; have HM9 := Lib.hid (HM8.out.goes hb9); have hz9 := HM9.out.acc; clear hb9)
     | (refine wpList_store_set rfl (.tmp 6) _ rfl g6 acc (acc.union one) rfl rfl hz9 ?_; intro w10 ho10 hbo10 hoth10 hsz10; have HM10 := Lib.hid (HM9.out.put ho10 hbo10 hoth10 hsz10); clear ho10 hbo10 hoth10 hsz10))
    refine ⟨⟨i + 1, wv, acc.union one, by simp, rfl, by omega, hwv0, HM10.out, fun h t ht => ?_⟩, by simp [intOf]; omega⟩
    obtain ⟨h1, h2⟩ := hwv1 h
    refine HSEM.out h1 t ?_
    rw [HD.out]
    exact ⟨hp, one, HREL.out h2, ht⟩
  ·have hin : i = ps.length := by omega
   subst hin
   have hfr : vd = 1 → FieldR kind (toL s) acc := fun h => by rw [HII.out]; exact hsem h acc (by rw [List.drop_length]; rfl)
   have HF := Lib.hid hfr
   have HM := Lib.hid hM
   have hz := hM.st.set
   have hr := hM.acc.range
   clear hfr hsem hM
   by_cases hv : vd = 1
   ·have HF1 := Lib.hid (HF.out hv)
    subst hv
    clear HF
    go_wp2_with (first
     | (refine wpList_load_mid rfl 36 (.tmp 6) rfl g6 0 rfl acc.cells _ hr Tryz.underlying36 rfl (by rw [CSet.cells_len]; kernel_rfl) ?_)
     | (refine wpList_store_set rfl _ _ rfl (w.heap.size + 1) CSet.zero acc rfl rfl hz ?_; intro w3 g1 g2 g3 g4))
    exact bodyPost_ret (results_ct rfl _ _ _ 36 _ _ _ rfl g1 Tryz.underlying36 rfl (by rw [List.size_toArray, CSet.cells_len]; kernel_rfl)) rfl
     ⟨⟨acc, 1, rfl, by decide, fun _ => HF1.out⟩, HM.out.st.below.trans (g2 _ (by omega))⟩
   ·go_wp2_with (first
     | (refine wpList_exec (.build 36 #[]) rfl rfl (.agg CSet.zero.cells.toArray) (by kernel_rfl) ?_)
     | (refine wpList_store_set rfl _ _ rfl (w.heap.size + 1) CSet.zero CSet.zero rfl rfl hz ?_; intro w3 g1 g2 g3 g4))
    exact bodyPost_ret (results_ct rfl _ _ _ 36 _ _ _ rfl g1 Tryz.underlying36 rfl (by rw [List.size_toArray, CSet.cells_len]; kernel_rfl)) rfl
     ⟨⟨CSet.zero, vd, rfl, hvd, fun h => absurd h hv⟩, HM.out.st.below.trans (g2 _ (by omega))⟩
end Go.Proofs.YtcjdideliifkhaaGreatDoor
