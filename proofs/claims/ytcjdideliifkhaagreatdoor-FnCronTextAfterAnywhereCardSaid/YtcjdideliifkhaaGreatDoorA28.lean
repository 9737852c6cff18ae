import Derived.Deep.Upon
import Derived.Lib.SmallJoins
import Derived.Test.YtcjdideliifkhaaGreatDoorA27
import Derived.Test.YtcjdideliifkhaaGreatDoorA23
set_option maxRecDepth 100000
set_option maxHeartbeats 16000000
namespace Go.Proofs.YtcjdideliifkhaaGreatDoor
open Go.RowKit Go.Proofs.YtcjdideliifkhaaGreatDoorW.PrintWords Go.Proofs.YtcjdideliifkhaaGreatDoorW.PrintLast Go.Proofs.YtcjdideliifkhaaGreatDoorW.PrintMore
set_option linter.unusedVariables false
set_option linter.unusedSimpArgs false
def SAt (w : World) (b : Nat) (s : CSet) : Prop := w.heap[b]? = some (.cells s.cells.toArray 36 (0, 0))
theorem cells_set_star (s : CSet) (v : Bool) : s.cells.toArray.setIfInBounds 0 (.bool v) = ({ s with star := v } : CSet).cells.toArray := by
 simp [CSet.cells]
theorem cells_set_has (s : CSet) (i : Nat) (v : Bool) : s.cells.toArray.setIfInBounds (1 + i) (.bool v) = ({ s with has := fun j => if j = i then v else s.has j } : CSet).cells.toArray := by
 rw [List.setIfInBounds_toArray]
 congr 1
 unfold CSet.cells
 rw [Nat.add_comm 1 i, List.set_cons_succ]
 congr 1
 apply List.ext_getElem?
 intro j
 rw [List.getElem?_set]
 by_cases c : i = j
 ·subst c
  by_cases h : i < 63
  ·simp [h]
  ·simp [h]
 ·rw [if_neg c]
  by_cases h : j < 63
  ·simp [h]; exact fun (e : j = i) => absurd e.symm c
  ·simp [h]
theorem SAt.lt {w : World} {b : Nat} {s : CSet} (h : SAt w b s) : b < w.heap.size := blk_lt h
theorem SAt.star {w : World} {b : Nat} {s : CSet} (h : SAt w b s) : w.cell? ⟨b, 0, none⟩ = some (.bool s.star) := blk_cell h 0
theorem SAt.has {w : World} {b : Nat} {s : CSet} (h : SAt w b s) (i : Nat) (hi : i < 63) : w.cell? ⟨b, 1 + i, none⟩ = some (.bool (s.has i)) := by
 rw [blk_cell h (1 + i), List.getElem?_toArray]; exact CSet.cells_has s i hi
theorem SAt.frozen {w : World} {b : Nat} {s : CSet} (h : SAt w b s) (i : Nat) : w.frozen? ⟨b, i, none⟩ = false := blk_frozen h i
theorem SAt.range {w : World} {b : Nat} {s : CSet} (h : SAt w b s) : w.rangeAt b 0 s.cells := fun j v hv => by
 rw [Nat.zero_add, blk_cell h j, List.getElem?_toArray]; exact hv
theorem SAt.there {w : World} {b : Nat} {s : CSet} (h : SAt w b s) : w.there b 0 64 := fun j hj => by
 rw [Nat.zero_add, blk_cell h j, List.getElem?_toArray]
 exact ⟨by rw [List.getElem?_eq_getElem (by rw [CSet.cells_len]; exact hj)]; rfl, h.frozen j⟩
theorem SAt.setHas {w : World} {b : Nat} {s : CSet} (h : SAt w b s) (i : Nat) (v : Bool) : SAt (w.setCell ⟨b, 1 + i, none⟩ (.bool v)) b { s with has := fun j => if j = i then v else s.has j } :=
 blk_put h (1 + i) _ (cells_set_has s i v)
theorem SAt.setStar {w : World} {b : Nat} {s : CSet} (h : SAt w b s) (v : Bool) : SAt (w.setCell ⟨b, 0, none⟩ (.bool v)) b { s with star := v } :=
 blk_put h 0 _ (cells_set_star s v)
theorem SAt.far {w : World} {b : Nat} {s : CSet} (h : SAt w b s) {p : Addr} (hp : b ≠ p.block) (v : Value) : SAt (w.setCell p v) b s := blk_far h hp v
theorem SAt.below {w w' : World} {b : Nat} {s : CSet} (h : SAt w b s) (hb : Below w.heap.size w w') : SAt w' b s := blk_below h hb
theorem SAt.allocd {w : World} {b : Nat} {s : CSet} (h : SAt w b s) (o : Obj) : SAt (w.alloc o) b s := blk_alloc h o
theorem SAt.boxed (w : World) (s : CSet) : SAt (w.alloc (.cells s.cells.toArray 36)) w.heap.size s := blk_new w _
theorem setCells_heap (b : Nat) (t : TypeId) : ∀ (vs : List Value) (o : Nat) (w : World) (cs : List Value), w.heap[b]? = some (.cells cs.toArray t (0, 0)) → o + vs.length = cs.length →
  (w.setCells b o vs).heap[b]? = some (.cells (cs.take o ++ vs).toArray t (0, 0)) := by
 intro vs
 induction vs with
 | nil => intro o w cs h hl; rw [World.setCells, h]; simp at hl; rw [List.append_nil, List.take_of_length_le (by omega)]
 | cons v vs ih =>
  intro o w cs h hl
  rw [World.setCells]
  have h1 : (w.setCell ⟨b, o, none⟩ v).heap[b]? = some (.cells (cs.set o v).toArray t (0, 0)) := blk_put h o v (by rw [List.setIfInBounds_toArray])
  rw [ih (o + 1) _ _ h1 (by simp at hl ⊢; omega)]
  have : (cs.set o v).take (o + 1) = cs.take o ++ [v] := by
   simp at hl
   apply List.ext_getElem?
   intro j
   by_cases c : j < o
   ·rw [List.getElem?_append_left (by simp; omega)]
    simp [List.getElem?_take, List.getElem?_set, c, show j < o + 1 by omega, show ¬ o = j by omega]
   ·rw [List.getElem?_append_right (by simp; omega)]
    by_cases c2 : j = o
    ·subst c2
     simp [List.getElem?_take, List.getElem?_set, show min j cs.length = j by omega, show j < cs.length by omega]
    ·simp [List.getElem?_take, List.getElem?_set, show min o cs.length = o by omega, show ¬ j < o + 1 by omega]
     omega
  rw [this, List.append_assoc]; rfl
theorem SAt.put {w : World} {b : Nat} {s : CSet} (h : SAt w b s) (s' : CSet) : SAt (w.setCells b 0 s'.cells.toArray.toList) b s' := by
 have := setCells_heap b 36 s'.cells 0 w s.cells h (by rw [CSet.cells_len, CSet.cells_len])
 simpa [SAt] using this
theorem setCells_below (b B : Nat) (hB : B ≤ b) : ∀ (vs : List Value) (o : Nat) (a w : World), Below B a w → Below B a (w.setCells b o vs) := by
 intro vs
 induction vs with
 | nil => intro o a w h; exact h
 | cons v vs ih => intro o a w h; exact ih _ _ _ (h.setCell hB _)
theorem setCells_size (b : Nat) : ∀ (vs : List Value) (o : Nat) (w : World), (w.setCells b o vs).heap.size = w.heap.size := by
 intro vs
 induction vs with
 | nil => intro o w; rfl
 | cons v vs ih => intro o w; rw [World.setCells, ih]; simp [World.setCell]
theorem all_cells (s : CSet) : s.cells.toArray.all (·.oneCell') = true := all_oneCell_toArray fun v hv => by
 unfold CSet.cells at hv
 rcases List.mem_cons.1 hv with rfl | hv
 ·rfl
 ·obtain ⟨i, _, rfl⟩ := List.mem_map.1 hv; rfl
theorem wpList_store_set {ops : Array Oper} {rest : List Oper} {op : Oper} {a : Act} {w : World} {Q : Exit → Act → World → Prop} (hgd : op.guard = none) (x y : Operand) (ho : op.op = .store 36 x y)
  (b : Nat) (s s' : CSet) (hx : a.eval x = .pointer (some ⟨b, 0, none⟩)) (hy : a.eval y = .agg s'.cells.toArray) (hs : SAt w b s)
  (h : ∀ w1, SAt w1 b s' → (∀ B, B ≤ b → Below B w w1) → (∀ i, i < w.heap.size → i ≠ b → w1.heap[i]? = w.heap[i]?) → w1.heap.size = w.heap.size → wpList Tryz.prog ops Q rest (a.put op.dst undef) w1) : wpList Tryz.prog ops Q (op :: rest) a w :=
 wpList_store_mid hgd 36 x y ho b 0 s'.cells.toArray hx hy (by rw [List.size_toArray, CSet.cells_len]; exact hs.there) (by rw [List.size_toArray, CSet.cells_len]; kernel_rfl) (all_cells s')
  (h _ (hs.put s') (fun B hB => setCells_below b B hB _ 0 w w (Below.refl _ _)) (fun i hi hne => World.heap_setCells_other w b 0 _ hi hne) (setCells_size b _ 0 w))
theorem exec_index34 (ρ : Operand → Value) (op : Oper) (x y : Operand) (ho : op.op = .index 34 x y) (f : Nat → Bool) (i : Nat) (hi : i < 63) (hx : ρ x = .agg (bvals 63 f).toArray) (hy : ρ y = .int .i64 (i : Int)) (w : World) :
  (execOp ρ op).run Tryz.prog w = .ok (.value (.bool (f i))) w := by
 have hu : Tryz.prog.underlying 34 = some (.array 63 4) := by kernel_rfl
 have hs : ∀ w, (sizeOf 4).run Tryz.prog w = .ok 1 w := fun w => by kernel_rfl
 have hA : ∀ w, (isAgg 4).run Tryz.prog w = .ok false w := fun w => by kernel_rfl
 have hp : (part 4 (bvals 63 f).toArray (i * 1)).run Tryz.prog w = .ok (.bool (f i)) w := by
  unfold part
  rw [Sem.run_bind, hA]
  simp only [Result.andThen, Bool.false_eq_true, if_false, Nat.mul_one, List.getElem?_toArray]
  rw [bvals_at 63 f i hi]
  rfl
 have hr : (Instr.index 34 (.agg (bvals 63 f).toArray) (.int .i64 (i : Int))).run Tryz.prog w = .ok (.bool (f i)) w := by
  unfold Instr.index
  simp only [asIntOf, Sem.run_bind, Sem.run_pure, Result.andThen]
  rw [run_underlying hu w]
  simp only [Result.andThen]
  rw [if_pos (by omega), Sem.run_bind, hs]
  simp only [Result.andThen, Int.toNat_natCast]
  exact hp
 unfold execOp
 rw [ho]
 simp only [hx, hy]
 rw [Sem.run_bind, hr]
 rfl
def CSet.zero : CSet := ⟨false, fun _ => false⟩
def CSet.union (a b : CSet) : CSet := ⟨a.star || b.star, fun i => a.has i || b.has i⟩
def upto (a b : CSet) (n : Nat) : CSet := ⟨a.star, fun i => if i < n then a.has i || b.has i else a.has i⟩
theorem CSet.cells_congr {a b : CSet} (hs : a.star = b.star) (h : ∀ i, i < 63 → a.has i = b.has i) : a.cells = b.cells := by
 unfold CSet.cells
 rw [hs]
 congr 1
 apply List.map_congr_left
 intro i hi
 rw [h i (by simpa using hi)]
theorem SAt.congr {w : World} {b : Nat} {s t : CSet} (h : SAt w b s) (hs : s.star = t.star) (he : ∀ i, i < 63 → s.has i = t.has i) : SAt w b t := by
 unfold SAt at *; rw [← CSet.cells_congr hs he]; exact h
theorem exec_alloc36 (ρ : Operand → Value) (op : Oper) (ho : op.op = .alloc 36) (W : World) : (execOp ρ op).run Tryz.prog W = .ok (.value (.pointer (some ⟨W.heap.size, 0, none⟩))) (W.alloc (.cells CSet.zero.cells.toArray 36)) := by
 unfold execOp
 rw [ho]
 kernel_rfl
theorem wpList_alloc_set {ops : Array Oper} {rest : List Oper} {op : Oper} {a : Act} {w : World} {Q : Exit → Act → World → Prop} (hgd : op.guard = none) (ho : op.op = .alloc 36)
  (h : ∀ g, g = w.heap.size → ∀ w1, SAt w1 g CSet.zero → Below w.heap.size w w1 → g < w1.heap.size → wpList Tryz.prog ops Q rest (a.put op.dst (.pointer (some ⟨g, 0, none⟩))) w1) : wpList Tryz.prog ops Q (op :: rest) a w :=
 wpList_plain hgd fun _ hK => by
  unfold Oper.wp
  rw [exec_alloc36 _ op ho w]
  exact hK _ _ (h _ rfl _ (SAt.boxed w _) (below_alloc (Below.refl _ _) _) (SAt.boxed w _).lt)
def Strs (w : World) (v : Value) (l : List ByteArray) : Prop := ∃ A c, v = .slice A l.length c ∧ ∀ i (h : i < l.length), ∃ ad, A = some ad ∧ w.cell? (ad.add i) = some (.string l[i])
theorem Strs.of {w : World} {base : Nat} {ok : Nat → Prop} {v : Value} {l : List ByteArray} (h : Kd.R Kd.string 9 w base ok v l) : Strs w v l := by
 obtain ⟨A, c, rfl⟩ := Kd.R_slice h
 refine ⟨A, c, rfl, fun i hi => ?_⟩
 obtain ⟨ad, e, hc⟩ := Kd.at_string (Kd.R_reads' h).2.2 (i : Int) (by omega) (by omega)
 refine ⟨ad, e, ?_⟩
 rw [Int.toNat_natCast] at hc
 rw [hc]
 congr 2
 unfold rdOf
 rw [Int.toNat_natCast, List.getD_eq_getElem?_getD, List.getElem?_eq_getElem hi]; rfl
theorem Strs.isSlice {w : World} {v : Value} {l : List ByteArray} (h : Strs w v l) : ∃ A c, v = .slice A l.length c := by
 obtain ⟨A, c, e, _⟩ := h; exact ⟨A, c, e⟩
theorem Strs.below {w w' : World} {v : Value} {l : List ByteArray} (h : Strs w v l) (hb : Below w.heap.size w w') : Strs w' v l := by
 obtain ⟨A, c, rfl, hs⟩ := h
 refine ⟨A, c, rfl, fun i hi => ?_⟩
 obtain ⟨ad, e, hc⟩ := hs i hi
 exact ⟨ad, e, pw_cell_below hb hc⟩
theorem wp_turn {P : Program} {c : Code} {Q : Exit → Act → World → Prop} {a : Act} {w w' : World} (h : w = w') (k : Code.wp P c Q a w') : Code.wp P c Q a w := h ▸ k
def UnionR (a b : CSet) (w : World) (B : Nat) (iv : Value) (wr : World) : Prop :=
 ∃ n : Nat, n ≤ 63 ∧ iv = .int .i64 (n : Int) ∧ SAt wr B (upto a b n) ∧ SAt wr (B + 1) b ∧ SAt wr (B + 1 + 1) CSet.zero ∧ Below B w wr ∧ B + 1 + 1 < wr.heap.size
theorem union_c (a b : CSet) (w : World) :
  Calls Tryz.prog 113 #[.agg a.cells.toArray, .agg b.cells.toArray] w fun e w' => e = .returned (.agg (a.union b).cells.toArray) ∧ Below w.heap.size w w' := by
 go_enter Tryz.func113, Tryz.ntmps113
 go_upto_region 1 with (fail)
 refine wp_turn (w' := ((w.alloc (.cells a.cells.toArray 36)).alloc (.cells b.cells.toArray 36)).alloc (.cells CSet.zero.cells.toArray 36)) (by kernel_rfl) ?_
 have hA : SAt (((w.alloc (.cells a.cells.toArray 36)).alloc (.cells b.cells.toArray 36)).alloc (.cells CSet.zero.cells.toArray 36)) w.heap.size a := ((SAt.boxed w a).allocd _).allocd _
 have hB : SAt (((w.alloc (.cells a.cells.toArray 36)).alloc (.cells b.cells.toArray 36)).alloc (.cells CSet.zero.cells.toArray 36)) (w.heap.size + 1) b := by
  have := (SAt.boxed (w.alloc (.cells a.cells.toArray 36)) b).allocd (.cells CSet.zero.cells.toArray 36); simpa using this
 have hC : SAt (((w.alloc (.cells a.cells.toArray 36)).alloc (.cells b.cells.toArray 36)).alloc (.cells CSet.zero.cells.toArray 36)) (w.heap.size + 1 + 1) CSet.zero := by
  have := SAt.boxed ((w.alloc (.cells a.cells.toArray 36)).alloc (.cells b.cells.toArray 36)) CSet.zero; simpa using this
 have hW : Below w.heap.size w (((w.alloc (.cells a.cells.toArray 36)).alloc (.cells b.cells.toArray 36)).alloc (.cells CSet.zero.cells.toArray 36)) := below_alloc (below_alloc (below_alloc (Below.refl _ _) _) _) _
 generalize ((w.alloc (.cells a.cells.toArray 36)).alloc (.cells b.cells.toArray 36)).alloc (.cells CSet.zero.cells.toArray 36) = W at *
 have hr := CSet.range_has hB.range
 have hR := Lib.hid (show UnionR a b w w.heap.size (.int .i64 0) W from ⟨0, by decide, rfl, hA.congr rfl (fun i _ => by simp [upto]), hB, hC, hW, hC.lt⟩)
 clear hA hB hC hW
 go_wp2_with (refine wpList_load_mid rfl 34 _ rfl (w.heap.size + 1) 1 rfl (bvals 63 b.has) (.array 63 4) hr (by kernel_rfl) rfl (by rw [bvals_len]; kernel_rfl) ?_)
 clear hr
 go_loopw [9] (fun iv wr => UnionR a b w w.heap.size iv wr) (fun iv _ => (63 - intOf iv).toNat)
 case atStart => exact hR.out
 case round =>
  obtain ⟨n, hn, rfl, hA, hB, hC, hW, hz⟩ := hrel
  clear hR
  by_cases hlt : n < 63
  ·have hc := hA.has n hlt
   have hf := hA.frozen (1 + n)
   have hnot : (upto a b n).has n = a.has n := by simp [upto]
   rw [hnot] at hc
   have HN := Lib.hid (show ∀ v : Bool, v = (a.has n || b.has n) → UnionR a b w w.heap.size (.int .i64 ((n : Int) + 1)) (wr.setCell ⟨w.heap.size, 1 + n, none⟩ (.bool v)) from fun v hv =>
    ⟨n + 1, by omega, by simp, (hA.setHas n v).congr rfl (fun i hi => by
     simp only [upto]
     by_cases c : i = n
     ·subst c; simp [hv]
     ·rw [if_neg c]
      by_cases c2 : i < n
      ·rw [if_pos c2, if_pos (by omega)]
      ·rw [if_neg c2, if_neg (by omega)]), hB.far (by simp) _, hC.far (by simp; omega) _, hW.setCell (Nat.le_refl _) _, by simpa [World.setCell] using hz⟩)
   clear hA hB hC hW
   cases ha : a.has n with
   | true =>
    rw [ha] at hc
    go_wp2_with (refine wpList_exec (.index 34 (.tmp 8) (.tmp 9)) rfl rfl (.bool (b.has n)) (exec_index34 _ _ _ _ rfl b.has n hlt rfl rfl _) ?_)
    exact ⟨HN.out true (by simp [ha]), by simp [intOf]; omega⟩
   | false =>
    rw [ha] at hc
    go_wp2_with (refine wpList_exec (.index 34 (.tmp 8) (.tmp 9)) rfl rfl (.bool (b.has n)) (exec_index34 _ _ _ _ rfl b.has n hlt rfl rfl _) ?_)
    exact ⟨HN.out (b.has n) (by simp [ha]), by simp [intOf]; omega⟩
  ·have hn63 : n = 63 := by omega
   subst hn63
   have hs := hA.star
   have hs2 := hB.star
   have hf := hA.frozen 0
   have HF := Lib.hid (show ∀ v : Bool, v = (a.star || b.star) → SAt (wr.setCell ⟨w.heap.size, 0, none⟩ (.bool v)) w.heap.size (a.union b) ∧ SAt (wr.setCell ⟨w.heap.size, 0, none⟩ (.bool v)) (w.heap.size + 1 + 1) CSet.zero ∧ Below w.heap.size w (wr.setCell ⟨w.heap.size, 0, none⟩ (.bool v)) from fun v hv =>
    ⟨(hA.setStar v).congr hv (fun i hi => by simp only [upto, CSet.union]; rw [if_pos hi]), hC.far (by simp; omega) _, hW.setCell (Nat.le_refl _) _⟩)
   clear hA hB hC hW
   cases ha : a.star with
   | true =>
    rw [show (upto a b 63).star = true from ha] at hs
    go_upto_region 7 with (fail)
    obtain ⟨h1, h2, h3⟩ := HF.out true (by simp [ha])
    have hr := h1.range
    generalize wr.setCell ⟨w.heap.size, 0, none⟩ (.bool true) = W2 at *
    go_wp2_with (first
     | (refine wpList_load_mid rfl 36 _ rfl w.heap.size 0 rfl (a.union b).cells _ hr Tryz.underlying36 rfl (by rw [CSet.cells_len]; kernel_rfl) ?_)
     | (refine wpList_store_set rfl _ _ rfl (w.heap.size + 1 + 1) CSet.zero (a.union b) rfl rfl h2 ?_; intro w3 g1 g2 g3 g4))
    refine bodyPost_ret (results_cell_row rfl _ _ _ 36 _ _ _ rfl g1 Tryz.underlying36 rfl (by rw [List.size_toArray, CSet.cells_len]; kernel_rfl)) rfl ⟨rfl, h3.trans (g2 _ (by omega))⟩
   | false =>
    rw [show (upto a b 63).star = false from ha] at hs
    go_upto_region 7 with (fail)
    obtain ⟨h1, h2, h3⟩ := HF.out b.star (by simp [ha])
    have hr := h1.range
    generalize wr.setCell ⟨w.heap.size, 0, none⟩ (.bool b.star) = W2 at *
    go_wp2_with (first
     | (refine wpList_load_mid rfl 36 _ rfl w.heap.size 0 rfl (a.union b).cells _ hr Tryz.underlying36 rfl (by rw [CSet.cells_len]; kernel_rfl) ?_)
     | (refine wpList_store_set rfl _ _ rfl (w.heap.size + 1 + 1) CSet.zero (a.union b) rfl rfl h2 ?_; intro w3 g1 g2 g3 g4))
    refine bodyPost_ret (results_cell_row rfl _ _ _ 36 _ _ _ rfl g1 Tryz.underlying36 rfl (by rw [List.size_toArray, CSet.cells_len]; kernel_rfl)) rfl ⟨rfl, h3.trans (g2 _ (by omega))⟩
open Go.RowKit Go.Proofs.YtcjdideliifkhaaGreatDoorW.PrintWords Go.Proofs.YtcjdideliifkhaaGreatDoorW.PrintLast Go.Proofs.YtcjdideliifkhaaGreatDoorW.PrintMore PFnCronTextAfterAnywhere
theorem value_c (kind : Int) (e : Txt) (hs : e.length ≤ 4294967296) : ∃ r v : Int, 0 ≤ v ∧ (v = 1 → ValR kind e r) ∧ ∀ w, Calls Tryz.prog 153 #[.int .i64 kind, .string (ofL e)] w fun e w' => e = .returned (.tuple #[.int .i64 r, .int .i64 v]) ∧ Below w.heap.size w w' := by
 obtain ⟨⟨r, v⟩, h, h0, h1⟩ := value_f kind (ofL e) hs
 obtain ⟨k, hk⟩ := h.rounds
 exact ⟨r, v, h0, h1, fun w => spec_CronValue.calls k kind (ofL e) r v w hk⟩
structure EnS (kind : Int) (w : World) (ad : Addr) (l : List Txt) (w' : World) : Prop where
 below : Below w.heap.size w w'
 box : w'.heap[w.heap.size]? = some (.cells #[.int .i64 (low kind), .int .i64 (high kind), .int .i64 kind] 169 (0, 0))
 row : ∀ i (h : i < l.length), w'.cell? (ad.add i) = some (.string (ofL l[i]))
theorem EnS.goes {kind : Int} {w : World} {ad : Addr} {l : List Txt} {w' w'' : World} (h : EnS kind w ad l w') (hb : Below w'.heap.size w' w'') : EnS kind w ad l w'' :=
 ⟨below_step h.below hb, blk_below h.box hb, fun i hi => pw_cell_below hb (h.row i hi)⟩
theorem ends_c (kind : Int) (s : ByteArray) (hs : s.size ≤ 4294967296) : ∃ (lo hi : Int) (star single : Bool) (v : Int), 0 ≤ v ∧ (v = 1 → EndsR kind (toL s) lo hi star single) ∧
  ∀ w, Calls Tryz.prog 143 #[.agg #[.int .i64 (low kind), .int .i64 (high kind), .int .i64 kind], .string s] w fun e w' => e = .returned (.tuple #[.int .i64 lo, .int .i64 hi, .bool star, .bool single, .int .i64 v]) ∧ Below w.heap.size w w' := by
 obtain ⟨kp, hkp⟩ := (pieces_f s 45 hs).rounds
 have hne := pieces_ne 45 (toL s) []
 have hm := fun e h => pieces_mem_len 45 (toL s) e h
 have hR : ∀ lo hi star single, EndsR kind (toL s) lo hi star single = ((∃ e, pieces 45 [] (toL s) = [e] ∧ (e = [42] ∨ (e = [63] ∧ (kind = 3 ∨ kind = 5))) ∧ lo = low kind ∧ hi = high kind ∧ star = true ∧ single = true)
  ∨ (∃ e, pieces 45 [] (toL s) = [e] ∧ e ≠ [42] ∧ e ≠ [63] ∧ ValR kind e lo ∧ hi = lo ∧ star = false ∧ single = true)
  ∨ (∃ e1 e2, pieces 45 [] (toL s) = [e1, e2] ∧ e1 ≠ [42] ∧ e1 ≠ [63] ∧ ValR kind e1 lo ∧ ValR kind e2 hi ∧ star = false ∧ single = false)) := fun _ _ _ _ => rfl
 rw [toL_len] at hm
 have HP := Lib.hid (fun w => spec_cronPieces.calls kp s 45 _ w hkp)
 clear hkp
 generalize pieces 45 [] (toL s) = p at HP hne hm hR
 obtain ⟨e, q, rfl⟩ := List.exists_cons_of_ne_nil hne
 have hme : e.length ≤ 4294967296 := by have := hm e (by simp); omega
 have hu169 := Tryz.underlying169
 have hnl : ((e :: q).map ofL).length = q.length + 1 := by simp
 obtain ⟨b42, h42⟩ : ∃ b, ((ofL e).toList == ([42] : List UInt8)) = b := ⟨_, rfl⟩
 obtain ⟨b63, h63⟩ : ∃ b, ((ofL e).toList == ([63] : List UInt8)) = b := ⟨_, rfl⟩
 have i42 : e = [42] ↔ b42 = true := by rw [← h42, toList_toL, toL_ofL]; simp
 have i63 : e = [63] ↔ b63 = true := by rw [← h63, toList_toL, toL_ofL]; simp
 by_cases hst : (b42 || b63) = true
 ·obtain ⟨b1, h1⟩ : ∃ b, decide (((q.length : Int) + 1) > 1) = b := ⟨_, rfl⟩
  obtain ⟨k3, h3⟩ : ∃ b, (kind != 3) = b := ⟨_, rfl⟩
  obtain ⟨k5, h5⟩ : ∃ b, (kind != 5) = b := ⟨_, rfl⟩
  have g1 : (((q.length : Int) + 1) == 1) = !b1 := by
   rw [← h1]
   by_cases c : q.length = 0
   ·rw [c]; rfl
   ·rw [decide_eq_true (by omega)]; simp; omega
  refine ⟨low kind, high kind, true, !b1, if b1 || (b63 && k3 && k5) then 2 else 1, by split <;> decide, fun h => ?_, fun w => ?_⟩
  ·have h' : (b1 || (b63 && k3 && k5)) = false := by
    cases c : (b1 || (b63 && k3 && k5)) with
    | false => rfl
    | true => rw [c] at h; cases h
   rw [Bool.or_eq_false_iff] at h'
   obtain ⟨h6, h7⟩ := h'
   subst h6
   have hq : q = [] := by
    have := of_decide_eq_false h1
    exact List.eq_nil_of_length_eq_zero (by omega)
   subst hq
   rw [hR]
   refine .inl ⟨e, rfl, ?_, rfl, rfl, rfl, rfl⟩
   rcases Bool.or_eq_true _ _ ▸ hst with h8 | h8
   ·exact .inl (i42.2 h8)
   ·subst h8
    refine .inr ⟨i63.2 rfl, ?_⟩
    rw [← h3, ← h5] at h7
    simp at h7
    by_cases c : kind = 3
    ·exact .inl c
    ·exact .inr (h7 c)
  go_enter Tryz.func143, Tryz.ntmps143
  have B0 := Lib.hid (blk_new w (.cells #[.int .i64 (low kind), .int .i64 (high kind), .int .i64 kind] 169))
  have B1 := Lib.hid (below_alloc (Below.refl w.heap.size w) (.cells #[.int .i64 (low kind), .int .i64 (high kind), .int .i64 kind] 169))
  go_upto_region 2 with (go_at_call 111; refine (HP.out _).mono ?_; rintro e w2 ⟨vp, rfl, hr, hb2⟩; obtain ⟨A, cp, rfl, hrow⟩ := Strs.of hr; have HR := Lib.hid hrow; have HB2 := Lib.hid hb2; clear hr hrow hb2)
  obtain ⟨ad, rfl, r0⟩ := HR.out 0 (by simp)
  rw [Addr.add_zero'] at r0
  replace r0 : w2.cell? ad = some (.string (ofL e)) := r0
  have hS : EnS kind w ad (e :: q) w2 := ⟨below_step B1.out HB2.out, blk_below B0.out HB2.out, fun i hi => by obtain ⟨ad', h1, h2⟩ := HR.out i (by simpa using hi); cases h1; rw [List.getElem_map] at h2; exact h2⟩
  have x0 : w2.cell? ⟨w.heap.size, 0, none⟩ = some (.int .i64 (low kind)) := blk_cell hS.box 0
  have x1 : w2.cell? ⟨w.heap.size, 1, none⟩ = some (.int .i64 (high kind)) := blk_cell hS.box 1
  have x2 : w2.cell? ⟨w.heap.size, 2, none⟩ = some (.int .i64 kind) := blk_cell hS.box 2
  have HS := Lib.hid hS
  clear hS B0 B1 HR HB2 HP
  have HB := HS.out.below
  clear hR hm i42 i63 hne
  cases b42 <;> cases b63 <;> first | (exact absurd hst (by decide)) | skip
  all_goals
   cases b1 <;> cases k3 <;> cases k5
   all_goals
    go_wp2
    go_quiet (fail)
    go_wp2
    refine bodyPost_ret (results_list (rs := [.tmp 4, .tmp 5, .tmp 6, .tmp 7, .tmp 8]) rfl (by simp) (.tmp (.tmp (.tmp (.tmp (.tmp .nil)))))) rfl ?_
    exact ⟨rfl, HB.trans (Go.Joins.below_draws _ _ _)⟩
 have hst' : b42 = false ∧ b63 = false := by cases b42 <;> cases b63 <;> simp_all
 obtain ⟨rfl, rfl⟩ := hst'
 have n42 : e ≠ [42] := fun h => by cases i42.1 h
 have n63 : e ≠ [63] := fun h => by cases i63.1 h
 obtain ⟨r, v, hv0, hv1, hv⟩ := value_c kind e hme
 have HV := Lib.hid hv
 clear hv i42 i63 hst hne
 by_cases hq1 : q.length = 0
 ·refine ⟨r, r, false, true, v, hv0, fun h => ?_, fun w => ?_⟩
  ·obtain rfl := List.eq_nil_of_length_eq_zero hq1
   rw [hR]; exact .inr (.inl ⟨e, rfl, n42, n63, hv1 h, rfl, rfl, rfl⟩)
  clear hR hm hv1 n42 n63
  have g1 : (((q.length : Int) + 1) == 1) = true := by rw [hq1]; rfl
  go_enter Tryz.func143, Tryz.ntmps143
  have B0 := Lib.hid (blk_new w (.cells #[.int .i64 (low kind), .int .i64 (high kind), .int .i64 kind] 169))
  have B1 := Lib.hid (below_alloc (Below.refl w.heap.size w) (.cells #[.int .i64 (low kind), .int .i64 (high kind), .int .i64 kind] 169))
  go_upto_region 2 with (go_at_call 111; refine (HP.out _).mono ?_; rintro e w2 ⟨vp, rfl, hr, hb2⟩; obtain ⟨A, cp, rfl, hrow⟩ := Strs.of hr; have HR := Lib.hid hrow; have HB2 := Lib.hid hb2; clear hr hrow hb2)
  obtain ⟨ad, rfl, r0⟩ := HR.out 0 (by simp)
  rw [Addr.add_zero'] at r0
  replace r0 : w2.cell? ad = some (.string (ofL e)) := r0
  have hS : EnS kind w ad (e :: q) w2 := ⟨below_step B1.out HB2.out, blk_below B0.out HB2.out, fun i hi => by obtain ⟨ad', h1, h2⟩ := HR.out i (by simpa using hi); cases h1; rw [List.getElem_map] at h2; exact h2⟩
  have x0 : w2.cell? ⟨w.heap.size, 0, none⟩ = some (.int .i64 (low kind)) := blk_cell hS.box 0
  have x1 : w2.cell? ⟨w.heap.size, 1, none⟩ = some (.int .i64 (high kind)) := blk_cell hS.box 1
  have x2 : w2.cell? ⟨w.heap.size, 2, none⟩ = some (.int .i64 kind) := blk_cell hS.box 2
  have HS := Lib.hid hS
  clear hS B0 B1 HR HB2 HP
  go_upto_region 7 with (fail)
  refine wp_region_det (F := ?F1) (by kernel_rfl) 83 rfl 11 [(52, .pointer (some ⟨w.heap.size, 2, none⟩)), (53, .int .i64 kind), (54, .slice (some ad) (q.length + 1) cp), (55, .pointer (some ad)), (56, .string (ofL e)), (57, .tuple #[.int .i64 r, .int .i64 v]), (51, .tuple #[.int .i64 r, .int .i64 v]), (58, .int .i64 r), (59, .int .i64 v), (4, .int .i64 r), (8, .int .i64 v)] ?hF1 (by kernel_rfl) (EnS kind w ad (e :: q)) (fun _ _ h hb => h.goes hb) (HS.out.goes (Below.refl _ _).drew) ?_ ?_
  case hF1 =>
   simp only [List.foldl_cons, List.foldl_nil, List.setIfInBounds_toArray, List.set_cons_zero, List.set_cons_succ]
   rfl
  ·and_intros
   all_goals first | exact trivial | intro _ w3 h3
   all_goals
    have y0 := blk_cell h3.box 2
    have y1 := h3.row 0 (by simp)
    rw [Addr.add_zero'] at y1
    have hb := Below.refl w3.heap.size w3
    change Oper.wp _ _ _ _ _ _
    go_simp
   refine (HV.out _).mono ?_
   rintro e w4 ⟨rfl, hb⟩
   exact ⟨rfl, hb⟩
  intro w3 h3
  show Exit.then _ _ .normal _ w3
  clear x0 x1 x2 HS r0
  have HB := h3.below
  clear h3
  go_wp2
  refine bodyPost_ret (results_list (rs := [.tmp 4, .tmp 5, .tmp 6, .tmp 7, .tmp 8]) rfl (by simp) (.tmp (.tmp (.tmp (.tmp (.tmp .nil)))))) rfl ?_
  exact ⟨rfl, HB⟩
 have g1 : (((q.length : Int) + 1) == 1) = false := by simp; omega
 by_cases hq2 : q.length = 1
 ·obtain ⟨e2, rfl⟩ : ∃ e2, q = [e2] := by
   match q, hq2 with
   | [e2], _ => exact ⟨e2, rfl⟩
  obtain ⟨r2, v2, hv20, hv21, hv2⟩ := value_c kind e2 (by have := hm e2 (by simp); omega)
  obtain ⟨v3, hw, hw0, hw1⟩ := worse_f v v2 hv0 hv20
  refine ⟨r, r2, false, false, v3, hw0, fun h => ?_, fun w => ?_⟩
  ·rw [hR]; exact .inr (.inr ⟨e, e2, rfl, n42, n63, hv1 (hw1 h).1, hv21 (hw1 h).2, rfl, rfl⟩)
  have HV2 := Lib.hid hv2
  have HW := Lib.hid hw
  clear hR hm hv1 hv21 hw1 hw hv2 n42 n63
  have hql : ([e2] : List Txt).length = 1 := rfl
  generalize hqq : ([e2] : List Txt) = q at *
  have g2 : (((q.length : Int) + 1) == 2) = true := by rw [hq2]; rfl
  go_enter Tryz.func143, Tryz.ntmps143
  have B0 := Lib.hid (blk_new w (.cells #[.int .i64 (low kind), .int .i64 (high kind), .int .i64 kind] 169))
  have B1 := Lib.hid (below_alloc (Below.refl w.heap.size w) (.cells #[.int .i64 (low kind), .int .i64 (high kind), .int .i64 kind] 169))
  go_upto_region 2 with (go_at_call 111; refine (HP.out _).mono ?_; rintro e w2 ⟨vp, rfl, hr, hb2⟩; obtain ⟨A, cp, rfl, hrow⟩ := Strs.of hr; have HR := Lib.hid hrow; have HB2 := Lib.hid hb2; clear hr hrow hb2)
  obtain ⟨ad, rfl, r0⟩ := HR.out 0 (by simp)
  rw [Addr.add_zero'] at r0
  replace r0 : w2.cell? ad = some (.string (ofL e)) := r0
  have hS : EnS kind w ad (e :: q) w2 := ⟨below_step B1.out HB2.out, blk_below B0.out HB2.out, fun i hi => by obtain ⟨ad', h1, h2⟩ := HR.out i (by simpa using hi); cases h1; rw [List.getElem_map] at h2; exact h2⟩
  have x0 : w2.cell? ⟨w.heap.size, 0, none⟩ = some (.int .i64 (low kind)) := blk_cell hS.box 0
  have x1 : w2.cell? ⟨w.heap.size, 1, none⟩ = some (.int .i64 (high kind)) := blk_cell hS.box 1
  have x2 : w2.cell? ⟨w.heap.size, 2, none⟩ = some (.int .i64 kind) := blk_cell hS.box 2
  have HS := Lib.hid hS
  clear hS B0 B1 HR HB2 HP
  go_upto_region 7 with (fail)
  refine wp_region_det (F := ?F2) (by kernel_rfl) 83 rfl 11 [(52, .pointer (some ⟨w.heap.size, 2, none⟩)), (53, .int .i64 kind), (54, .slice (some ad) (q.length + 1) cp), (55, .pointer (some ad)), (56, .string (ofL e)), (57, .tuple #[.int .i64 r, .int .i64 v]), (51, .tuple #[.int .i64 r, .int .i64 v]), (58, .int .i64 r), (59, .int .i64 v), (4, .int .i64 r), (8, .int .i64 v)] ?hF2 (by kernel_rfl) (EnS kind w ad (e :: q)) (fun _ _ h hb => h.goes hb) (HS.out.goes (Below.refl _ _).drew) ?_ ?_
  case hF2 =>
   simp only [List.foldl_cons, List.foldl_nil, List.setIfInBounds_toArray, List.set_cons_zero, List.set_cons_succ]
   rfl
  ·and_intros
   all_goals first | exact trivial | intro _ w3 h3
   all_goals
    have y0 := blk_cell h3.box 2
    have y1 := h3.row 0 (by simp)
    rw [Addr.add_zero'] at y1
    have hb := Below.refl w3.heap.size w3
    change Oper.wp _ _ _ _ _ _
    go_simp
   refine (HV.out _).mono ?_
   rintro e w4 ⟨rfl, hb⟩
   exact ⟨rfl, hb⟩
  intro w3 h3
  show Exit.then _ _ .normal _ w3
  clear x0 x1 x2 HS r0
  go_upto_region 12 with (fail)
  refine wp_region_det (F := ?F3) (by kernel_rfl) 83 rfl 11 [(70, .pointer (some ⟨w.heap.size, 2, none⟩)), (71, .int .i64 kind), (72, .slice (some ad) (q.length + 1) cp), (73, .pointer (some (ad.add 1))), (74, .string (ofL e2)), (75, .tuple #[.int .i64 r2, .int .i64 v2]), (69, .tuple #[.int .i64 r2, .int .i64 v2]), (76, .int .i64 r2), (77, .int .i64 v2), (10, .int .i64 r2), (11, .int .i64 v2)] ?hF3 (by kernel_rfl) (EnS kind w ad (e :: q)) (fun _ _ h hb => h.goes hb) (h3.goes (Below.refl _ _).drew) ?_ ?_
  case hF3 =>
   simp only [List.foldl_cons, List.foldl_nil, List.setIfInBounds_toArray, List.set_cons_zero, List.set_cons_succ]
   rfl
  ·clear h3
   and_intros
   all_goals first | exact trivial | intro _ w5 h5
   all_goals
    have y0 := blk_cell h5.box 2
    have y1 : w5.cell? ⟨ad.block, ad.off + 1, none⟩ = some (.string (ofL e2)) := by subst hqq; exact h5.row 1 (by simp)
    have gi : ¬ ((q.length : Int) + 1 ≤ 1) := by omega
    have hb := Below.refl w5.heap.size w5
    change Oper.wp _ _ _ _ _ _
    go_simp
   refine (HV2.out _).mono ?_
   rintro e w4 ⟨rfl, hb⟩
   exact ⟨rfl, hb⟩
  clear h3
  intro w3 h3
  show Exit.then _ _ .normal _ w3
  have HB := h3.below
  clear h3
  go_wp2_with (go_at_call 28; refine (spec_worse.calls _ _ _ _ HW.out).mono ?_; rintro e w6 ⟨rfl, hb6⟩; have HB6 := Lib.hid (below_step HB hb6); clear hb6)
  refine bodyPost_ret (results_list (rs := [.tmp 4, .tmp 5, .tmp 6, .tmp 7, .tmp 8]) rfl (by simp) (.tmp (.tmp (.tmp (.tmp (.tmp .nil)))))) rfl ?_
  exact ⟨rfl, HB6.out⟩
 ·refine ⟨0, 0, false, false, 0, by decide, fun h => (by cases h), fun w => ?_⟩
  clear hR hm hv1 n42 n63
  have g2 : (((q.length : Int) + 1) == 2) = false := by simp; omega
  go_enter Tryz.func143, Tryz.ntmps143
  have B0 := Lib.hid (blk_new w (.cells #[.int .i64 (low kind), .int .i64 (high kind), .int .i64 kind] 169))
  have B1 := Lib.hid (below_alloc (Below.refl w.heap.size w) (.cells #[.int .i64 (low kind), .int .i64 (high kind), .int .i64 kind] 169))
  go_upto_region 2 with (go_at_call 111; refine (HP.out _).mono ?_; rintro e w2 ⟨vp, rfl, hr, hb2⟩; obtain ⟨A, cp, rfl, hrow⟩ := Strs.of hr; have HR := Lib.hid hrow; have HB2 := Lib.hid hb2; clear hr hrow hb2)
  obtain ⟨ad, rfl, r0⟩ := HR.out 0 (by simp)
  rw [Addr.add_zero'] at r0
  replace r0 : w2.cell? ad = some (.string (ofL e)) := r0
  have hS : EnS kind w ad (e :: q) w2 := ⟨below_step B1.out HB2.out, blk_below B0.out HB2.out, fun i hi => by obtain ⟨ad', h1, h2⟩ := HR.out i (by simpa using hi); cases h1; rw [List.getElem_map] at h2; exact h2⟩
  have x0 : w2.cell? ⟨w.heap.size, 0, none⟩ = some (.int .i64 (low kind)) := blk_cell hS.box 0
  have x1 : w2.cell? ⟨w.heap.size, 1, none⟩ = some (.int .i64 (high kind)) := blk_cell hS.box 1
  have x2 : w2.cell? ⟨w.heap.size, 2, none⟩ = some (.int .i64 kind) := blk_cell hS.box 2
  have HS := Lib.hid hS
  clear hS B0 B1 HR HB2 HP
  go_upto_region 7 with (fail)
  refine wp_region_det (F := ?F4) (by kernel_rfl) 83 rfl 11 [(52, .pointer (some ⟨w.heap.size, 2, none⟩)), (53, .int .i64 kind), (54, .slice (some ad) (q.length + 1) cp), (55, .pointer (some ad)), (56, .string (ofL e)), (57, .tuple #[.int .i64 r, .int .i64 v]), (51, .tuple #[.int .i64 r, .int .i64 v]), (58, .int .i64 r), (59, .int .i64 v), (4, .int .i64 r), (8, .int .i64 v)] ?hF4 (by kernel_rfl) (EnS kind w ad (e :: q)) (fun _ _ h hb => h.goes hb) (HS.out.goes (Below.refl _ _).drew) ?_ ?_
  case hF4 =>
   simp only [List.foldl_cons, List.foldl_nil, List.setIfInBounds_toArray, List.set_cons_zero, List.set_cons_succ]
   rfl
  ·and_intros
   all_goals first | exact trivial | intro _ w3 h3
   all_goals
    have y0 := blk_cell h3.box 2
    have y1 := h3.row 0 (by simp)
    rw [Addr.add_zero'] at y1
    have hb := Below.refl w3.heap.size w3
    change Oper.wp _ _ _ _ _ _
    go_simp
   refine (HV.out _).mono ?_
   rintro e w4 ⟨rfl, hb⟩
   exact ⟨rfl, hb⟩
  intro w3 h3
  show Exit.then _ _ .normal _ w3
  clear x0 x1 x2 HS r0
  have HB := h3.below
  clear h3
  go_wp2
  refine bodyPost_ret (results_list (rs := [.tmp 4, .tmp 5, .tmp 6, .tmp 7, .tmp 8]) rfl (by simp) (.tmp (.tmp (.tmp (.tmp (.tmp .nil)))))) rfl ?_
  exact ⟨rfl, HB⟩
end Go.Proofs.YtcjdideliifkhaaGreatDoor
