import Derived.Laws.IdiomStrings
import Derived.Lib.OthersKept
import Derived.Test.YtcjdideliifkhaaGreatDoorB16
import Derived.Test.YtcjdideliifkhaaGreatDoorB05
set_option maxRecDepth 100000
set_option maxHeartbeats 16000000
namespace Go.Proofs.YtcjdideliifkhaaGreatDoor
open Go.RowKit Go.Proofs.YtcjdideliifkhaaGreatDoorW.PrintWords Go.Proofs.YtcjdideliifkhaaGreatDoorW.PrintLast Go.Proofs.YtcjdideliifkhaaGreatDoorW.PrintMore
set_option linter.unusedVariables false
set_option linter.unusedSimpArgs false
def CSet.zero : CSet := ⟨false, fun _ => false⟩
def CSet.union (a b : CSet) : CSet := ⟨a.star || b.star, fun i => a.has i || b.has i⟩
def upto (a b : CSet) (n : Nat) : CSet := ⟨a.star, fun i => if i < n then a.has i || b.has i else a.has i⟩
theorem CSet.cells_congr {a b : CSet} (hs : a.star = b.star) (h : ∀ i, i < 63 → a.has i = b.has i) : a.cells = b.cells := by
 unfold CSet.cells
 rw [hs]
 congr 1
 apply List.map_congr_left
 intro i hi
 rw [h i (by simpa using hi)]
theorem SAt.congr {w : World} {b : Nat} {s t : CSet} (h : SAt w b s) (hs : s.star = t.star) (he : ∀ i, i < 63 → s.has i = t.has i) : SAt w b t := by
 unfold SAt at *; rw [← CSet.cells_congr hs he]; exact h
theorem exec_alloc36 (ρ : Operand → Value) (op : Oper) (ho : op.op = .alloc 36) (W : World) : (execOp ρ op).run Tryz.prog W = .ok (.value (.pointer (some ⟨W.heap.size, 0, none⟩))) (W.alloc (.cells CSet.zero.cells.toArray 36)) := by
 unfold execOp
 rw [ho]
 kernel_rfl
theorem wpList_alloc_set {ops : Array Oper} {rest : List Oper} {op : Oper} {a : Act} {w : World} {Q : Exit → Act → World → Prop} (hgd : op.guard = none) (ho : op.op = .alloc 36)
  (h : ∀ g, g = w.heap.size → ∀ w1, SAt w1 g CSet.zero → Below w.heap.size w w1 → g < w1.heap.size → wpList Tryz.prog ops Q rest (a.put op.dst (.pointer (some ⟨g, 0, none⟩))) w1) : wpList Tryz.prog ops Q (op :: rest) a w :=
 wpList_plain hgd fun _ hK => by
  unfold Oper.wp
  rw [exec_alloc36 _ op ho w]
  exact hK _ _ (h _ rfl _ (SAt.boxed w _) (below_alloc (Below.refl _ _) _) (SAt.boxed w _).lt)
def Strs (w : World) (v : Value) (l : List ByteArray) : Prop := ∃ A c, v = .slice A l.length c ∧ ∀ i (h : i < l.length), ∃ ad, A = some ad ∧ w.cell? (ad.add i) = some (.string l[i])
theorem Strs.ofK {w : World} {base : Nat} {ok : Nat → Prop} {v : Value} {l : List ByteArray} (h : Kd.R Kd.string 9 w base ok v l) : Strs w v l := by
 obtain ⟨A, c, rfl⟩ := Kd.R_slice h
 refine ⟨A, c, rfl, fun i hi => ?_⟩
 obtain ⟨ad, e, hc⟩ := Kd.at_string (Kd.R_reads' h).2.2 (i : Int) (by omega) (by omega)
 refine ⟨ad, e, ?_⟩
 rw [Int.toNat_natCast] at hc
 rw [hc]
 congr 2
 unfold rdOf
 rw [Int.toNat_natCast, List.getD_eq_getElem?_getD, List.getElem?_eq_getElem hi]; rfl
theorem Strs.isSlice {w : World} {v : Value} {l : List ByteArray} (h : Strs w v l) : ∃ A c, v = .slice A l.length c := by
 obtain ⟨A, c, e, _⟩ := h; exact ⟨A, c, e⟩
theorem Strs.below {w w' : World} {v : Value} {l : List ByteArray} (h : Strs w v l) (hb : Below w.heap.size w w') : Strs w' v l := by
 obtain ⟨A, c, rfl, hs⟩ := h
 refine ⟨A, c, rfl, fun i hi => ?_⟩
 obtain ⟨ad, e, hc⟩ := hs i hi
 exact ⟨ad, e, pw_cell_below hb hc⟩
theorem wp_turn {P : Program} {c : Code} {Q : Exit → Act → World → Prop} {a : Act} {w w' : World} (h : w = w') (k : Code.wp P c Q a w') : Code.wp P c Q a w := h ▸ k
def UnionR (a b : CSet) (w : World) (B : Nat) (iv : Value) (wr : World) : Prop :=
 ∃ n : Nat, n ≤ 63 ∧ iv = .int .i64 (n : Int) ∧ SAt wr B (upto a b n) ∧ SAt wr (B + 1) b ∧ SAt wr (B + 1 + 1) CSet.zero ∧ Below B w wr ∧ B + 1 + 1 < wr.heap.size
theorem union_c (a b : CSet) (w : World) :
  Calls Tryz.prog 113 #[.agg a.cells.toArray, .agg b.cells.toArray] w fun e w' => e = .returned (.agg (a.union b).cells.toArray) ∧ Below w.heap.size w w' := by
 go_enter Tryz.func113, Tryz.ntmps113
 go_upto_region 1 with (fail)
 refine wp_turn (w' := ((w.alloc (.cells a.cells.toArray 36)).alloc (.cells b.cells.toArray 36)).alloc (.cells CSet.zero.cells.toArray 36)) (by kernel_rfl) ?_
 have hA : SAt (((w.alloc (.cells a.cells.toArray 36)).alloc (.cells b.cells.toArray 36)).alloc (.cells CSet.zero.cells.toArray 36)) w.heap.size a := ((SAt.boxed w a).allocd _).allocd _
 have hB : SAt (((w.alloc (.cells a.cells.toArray 36)).alloc (.cells b.cells.toArray 36)).alloc (.cells CSet.zero.cells.toArray 36)) (w.heap.size + 1) b := by
  have := (SAt.boxed (w.alloc (.cells a.cells.toArray 36)) b).allocd (.cells CSet.zero.cells.toArray 36); simpa using this
 have hC : SAt (((w.alloc (.cells a.cells.toArray 36)).alloc (.cells b.cells.toArray 36)).alloc (.cells CSet.zero.cells.toArray 36)) (w.heap.size + 1 + 1) CSet.zero := by
  have := SAt.boxed ((w.alloc (.cells a.cells.toArray 36)).alloc (.cells b.cells.toArray 36)) CSet.zero; simpa using this
 have hW : Below w.heap.size w (((w.alloc (.cells a.cells.toArray 36)).alloc (.cells b.cells.toArray 36)).alloc (.cells CSet.zero.cells.toArray 36)) := below_alloc (below_alloc (below_alloc (Below.refl _ _) _) _) _
 generalize ((w.alloc (.cells a.cells.toArray 36)).alloc (.cells b.cells.toArray 36)).alloc (.cells CSet.zero.cells.toArray 36) = W at *
 have hr := CSet.range_has hB.range
 have hR := Lib.hid (show UnionR a b w w.heap.size (.int .i64 0) W from ⟨0, by decide, rfl, hA.congr rfl (fun i _ => by simp [upto]), hB, hC, hW, hC.lt⟩)
 clear hA hB hC hW
 go_wp2_with (refine wpList_load_mid rfl 34 _ rfl (w.heap.size + 1) 1 rfl (bvals 63 b.has) (.array 63 4) hr (by kernel_rfl) rfl (by rw [bvals_len]; kernel_rfl) ?_)
 clear hr
 go_loopw [9] (fun iv wr => UnionR a b w w.heap.size iv wr) (fun iv _ => (63 - intOf iv).toNat)
 case atStart => exact hR.out
 case round =>
  obtain ⟨n, hn, rfl, hA, hB, hC, hW, hz⟩ := hrel
  clear hR
  by_cases hlt : n < 63
  ·have hc := hA.has n hlt
   have hf := hA.frozen (1 + n)
   have hnot : (upto a b n).has n = a.has n := by simp [upto]
   rw [hnot] at hc
   have HN := Lib.hid (show ∀ v : Bool, v = (a.has n || b.has n) → UnionR a b w w.heap.size (.int .i64 ((n : Int) + 1)) (wr.setCell ⟨w.heap.size, 1 + n, none⟩ (.bool v)) from fun v hv =>
    ⟨n + 1, by omega, by simp, (hA.setHas n v).congr rfl (fun i hi => by
     simp only [upto]
     by_cases c : i = n
     ·subst c; simp [hv]
     ·rw [if_neg c]
      by_cases c2 : i < n
      ·rw [if_pos c2, if_pos (by omega)]
      ·rw [if_neg c2, if_neg (by omega)]), hB.far (by simp) _, hC.far (by simp; omega) _, hW.setCell (Nat.le_refl _) _, by simpa [World.setCell] using hz⟩)
   clear hA hB hC hW
   cases ha : a.has n with
   | true =>
    rw [ha] at hc
    go_wp2_with (refine wpList_exec (.index 34 (.tmp 8) (.tmp 9)) rfl rfl (.bool (b.has n)) (exec_index34 _ _ _ _ rfl b.has n hlt rfl rfl _) ?_)
    exact ⟨HN.out true (by simp [ha]), by simp [intOf]; omega⟩
   | false =>
    rw [ha] at hc
    go_wp2_with (refine wpList_exec (.index 34 (.tmp 8) (.tmp 9)) rfl rfl (.bool (b.has n)) (exec_index34 _ _ _ _ rfl b.has n hlt rfl rfl _) ?_)
    exact ⟨HN.out (b.has n) (by simp [ha]), by simp [intOf]; omega⟩
  ·have hn63 : n = 63 := by omega
   subst hn63
   have hs := hA.star
   have hs2 := hB.star
   have hf := hA.frozen 0
   have HF := Lib.hid (show ∀ v : Bool, v = (a.star || b.star) → SAt (wr.setCell ⟨w.heap.size, 0, none⟩ (.bool v)) w.heap.size (a.union b) ∧ SAt (wr.setCell ⟨w.heap.size, 0, none⟩ (.bool v)) (w.heap.size + 1 + 1) CSet.zero ∧ Below w.heap.size w (wr.setCell ⟨w.heap.size, 0, none⟩ (.bool v)) from fun v hv =>
    ⟨(hA.setStar v).congr hv (fun i hi => by simp only [upto, CSet.union]; rw [if_pos hi]), hC.far (by simp; omega) _, hW.setCell (Nat.le_refl _) _⟩)
   clear hA hB hC hW
   cases ha : a.star with
   | true =>
    rw [show (upto a b 63).star = true from ha] at hs
    go_upto_region 7 with (fail)
    obtain ⟨h1, h2, h3⟩ := HF.out true (by simp [ha])
    have hr := h1.range
    generalize wr.setCell ⟨w.heap.size, 0, none⟩ (.bool true) = W2 at *
    go_wp2_with (first
     | (refine wpList_load_mid rfl 36 _ rfl w.heap.size 0 rfl (a.union b).cells _ hr Tryz.underlying36 rfl (by rw [CSet.cells_len]; kernel_rfl) ?_)
     | (refine wpList_store_set rfl _ _ rfl (w.heap.size + 1 + 1) CSet.zero (a.union b) rfl rfl h2 ?_; intro w3 g1 g2 g3 g4))
    refine bodyPost_ret (results_cell_row rfl _ _ _ 36 _ _ _ rfl g1 Tryz.underlying36 rfl (by rw [List.size_toArray, CSet.cells_len]; kernel_rfl)) rfl ⟨rfl, h3.trans (g2 _ (by omega))⟩
   | false =>
    rw [show (upto a b 63).star = false from ha] at hs
    go_upto_region 7 with (fail)
    obtain ⟨h1, h2, h3⟩ := HF.out b.star (by simp [ha])
    have hr := h1.range
    generalize wr.setCell ⟨w.heap.size, 0, none⟩ (.bool b.star) = W2 at *
    go_wp2_with (first
     | (refine wpList_load_mid rfl 36 _ rfl w.heap.size 0 rfl (a.union b).cells _ hr Tryz.underlying36 rfl (by rw [CSet.cells_len]; kernel_rfl) ?_)
     | (refine wpList_store_set rfl _ _ rfl (w.heap.size + 1 + 1) CSet.zero (a.union b) rfl rfl h2 ?_; intro w3 g1 g2 g3 g4))
    refine bodyPost_ret (results_cell_row rfl _ _ _ 36 _ _ _ rfl g1 Tryz.underlying36 rfl (by rw [List.size_toArray, CSet.cells_len]; kernel_rfl)) rfl ⟨rfl, h3.trans (g2 _ (by omega))⟩
open Go.RowKit Go.Proofs.YtcjdideliifkhaaGreatDoorW.PrintWords Go.Proofs.YtcjdideliifkhaaGreatDoorW.PrintLast Go.Proofs.YtcjdideliifkhaaGreatDoorW.PrintMore PFnCronTextAfterAnywhere
structure RowB (w0 w : World) (e : TypeId) (v : Value) (us : List Value) : Prop where
 own : w.ownsRow w0.heap.size e 1 v us.length us
 below : Below w0.heap.size w0 w
def ItAt (w : World) (k : Nat) (s : ByteArray) (pos : Nat) : Prop := w.heap[k]? = some (.stringIter s pos)
theorem ItAt.lt {w : World} {k : Nat} {s : ByteArray} {pos : Nat} (h : ItAt w k s pos) : k < w.heap.size := (Array.getElem?_eq_some_iff.1 h).1
theorem ItAt.alloc {w : World} {k : Nat} {s : ByteArray} {pos : Nat} (h : ItAt w k s pos) (o : Obj) : ItAt (w.alloc o) k s pos := (Below.heap_alloc w o k h.lt).trans h
theorem ItAt.below {w w' : World} {k : Nat} {s : ByteArray} {pos : Nat} (h : ItAt w k s pos) (hb : Below w.heap.size w w') : ItAt w' k s pos := (hb.block k h.lt).trans h
theorem ItAt.moved {w : World} {k : Nat} {s : ByteArray} {pos : Nat} (h : ItAt w k s pos) (pos' : Nat) : ItAt (w.iterAt k s pos') k s pos' := Lib.iterAt_heap w k s pos pos' h
theorem RowB.nil (w0 w : World) (e : TypeId) (h : Below w0.heap.size w0 w) : RowB w0 w e (.slice none 0 0) [] := ⟨⟨rfl, .inl ⟨rfl, rfl⟩⟩, h⟩
theorem RowB.alloc {w0 w : World} {e : TypeId} {v : Value} {us : List Value} (h : RowB w0 w e v us) (o : Obj) : RowB w0 (w.alloc o) e v us := ⟨h.own.alloc o, below_alloc h.below o⟩
theorem RowB.block {w0 w : World} {e : TypeId} {v : Value} {us : List Value} (h : RowB w0 w e v us) : ∀ g, v.ownBlock = some g → w0.heap.size ≤ g ∧ ∃ cur, w.heap[g]? = some (.cells cur e (0, 0)) := by
 obtain ⟨⟨_, h1 | ⟨g, cap, cur, rfl, hg, hc, _⟩⟩, _⟩ := h
 ·rintro g hg; rw [h1.1] at hg; cases hg
 ·intro g' hg'; cases hg'; exact ⟨hg, cur, hc⟩
theorem ItAt.ne {w0 w : World} {e : TypeId} {v : Value} {us : List Value} (h : RowB w0 w e v us) {k : Nat} {s : ByteArray} {pos : Nat} (hk : ItAt w k s pos) : some k ≠ v.ownBlock := fun he => by
 obtain ⟨_, cur, hc⟩ := h.block k he.symm
 rw [ItAt, hc] at hk; cases hk
theorem RowB.moved {w0 w : World} {e : TypeId} {v : Value} {us : List Value} (h : RowB w0 w e v us) {k : Nat} {s : ByteArray} {pos : Nat} (hk : ItAt w k s pos) (hle : w0.heap.size ≤ k) (pos' : Nat) : RowB w0 (w.iterAt k s pos') e v us := by
 have hne := ItAt.ne h hk
 refine ⟨?_, Lib.below_iterAt h.below hle s pos'⟩
 obtain ⟨⟨hl, h1 | ⟨g, cap, cur, rfl, hg, hc, hr⟩⟩, _⟩ := h
 ·exact ⟨hl, .inl h1⟩
 ·refine ⟨hl, .inr ⟨g, cap, cur, rfl, hg, ?_, hr⟩⟩
  rw [Lib.iterAt_other w k g s pos' (fun e => hne (by rw [e]; rfl))]; exact hc
theorem RowB.below' {w0 w w' : World} {e : TypeId} {v : Value} {us : List Value} (h : RowB w0 w e v us) (hb : Below w.heap.size w w') : RowB w0 w' e v us := by
 refine ⟨?_, below_step h.below hb⟩
 obtain ⟨⟨hl, h1 | ⟨g, cap, cur, rfl, hg, hc, hr⟩⟩, _⟩ := h
 ·exact ⟨hl, .inl h1⟩
 ·exact ⟨hl, .inr ⟨g, cap, cur, rfl, hg, blk_below hc hb, hr⟩⟩
theorem ItAt.grown {w w' : World} {k : Nat} {s : ByteArray} {pos : Nat} (h : ItAt w k s pos) {row : Option Nat} (hg : w.grownBy w' row) (hne : some k ≠ row) : ItAt w' k s pos := (hg.block k h.lt hne).trans h
noncomputable def info9 : TypeInfo := (Tryz.prog.info? 9).get (by kernel_rfl)
noncomputable def info5 : TypeInfo := (Tryz.prog.info? 5).get (by kernel_rfl)
structure ElemOk (T e : TypeId) (i : TypeInfo) (z : Value) : Prop where
 sl : Tryz.prog.underlying T = some (.slice e)
 inf : Tryz.prog.info? e = some i
 zero : i.zero = some z
 size : i.size = 1
 bytes : i.bytes ≤ 16
 cells : z.cells.size = 1
theorem elem9 : ElemOk 50 9 info9 (.string ⟨#[]⟩) := ⟨by kernel_rfl, by kernel_rfl, by kernel_rfl, by kernel_rfl, by rw [show info9.bytes = 16 by kernel_rfl]; decide, by kernel_rfl⟩
theorem elem5 : ElemOk 257 5 info5 (.int .u8 0) := ⟨by kernel_rfl, by kernel_rfl, by kernel_rfl, by kernel_rfl, by rw [show info5.bytes = 1 by kernel_rfl]; decide, by kernel_rfl⟩
theorem wpList_app1 {ops : Array Oper} {rest : List Oper} {o : Oper} {a : Act} {Q : Exit → Act → World → Prop} {w0 w : World} {T e : TypeId} {i : TypeInfo} {z : Value} (hE : ElemOk T e i z) {v : Value} {us : List Value} (hR : RowB w0 w e v us)
  (hgd : o.guard = none) (s x : Operand) (ho : o.op = .call { callee := .builtin .append, args := #[s, x], argTypes := #[T, T] }) (hs : a.eval s = v) (g c : Nat) (u : Value) (hx : a.eval x = .slice (some ⟨g, 0, none⟩) 1 c) (hu : w.cell? ⟨g, 0, none⟩ = some u) (hu1 : u.oneCell' = true) (hl : us.length ≤ 4294967296)
  (h : ∀ v' w', RowB w0 w' e v' (us ++ [u]) → (∀ k s pos, ItAt w k s pos → ItAt w' k s pos) → v' ≠ .slice none 0 0 → wpList Tryz.prog ops Q rest (a.put o.dst v') w') : wpList Tryz.prog ops Q (o :: rest) a w := by
 have hb := hE.bytes
 refine wpList_append_own w hgd s x T ho w0.heap.size e i z 1 i.bytes hE.sl hE.inf hE.zero hE.size rfl hE.cells (by decide) v us.length us hs hR.own ⟨g, 0, none⟩ 1 c [u] hx rfl ?_ ?_ ?_ ?_ hR.below.size ?_
 ·intro j u' hj
  have : j = 0 := by
   rcases Nat.eq_zero_or_pos j with h | h
   ·exact h
   ·rw [List.getElem?_eq_none (by simp; omega)] at hj; cases hj
  subst this
  simp at hj
  rw [add_plain, hu, hj]
 ·intro u' hu'
  rw [List.mem_singleton] at hu'
  rw [hu']; exact hu1
 ·unfold maxLen; omega
 ·calc (us.length + 1) * i.bytes ≤ (4294967296 + 1) * 16 := Nat.mul_le_mul (by omega) hb
   _ ≤ _ := by decide
 ·intro v' w' hown hg hn
  refine h v' w' ⟨by rw [List.length_append]; exact hown, hR.below.grown hg hR.below.size (fun k hk => (hR.block k hk).1)⟩ (fun k s pos hk => hk.grown hg (ItAt.ne hR hk)) (fun he => ?_)
  have := (hn.1 he).2
  cases this
theorem wpList_apps {ops : Array Oper} {rest : List Oper} {o : Oper} {a : Act} {Q : Exit → Act → World → Prop} {w0 w : World} {v : Value} {us : List Value} (hR : RowB w0 w 5 v us)
  (hgd : o.guard = none) (s x : Operand) (ho : o.op = .call { callee := .builtin .append, args := #[s, x], argTypes := #[257, 9] }) (hs : a.eval s = v) (t : ByteArray) (hx : a.eval x = .string t) (ht : 0 < t.size) (ht2 : t.size ≤ 16) (hl : us.length ≤ 4294967296)
  (h : ∀ v' w', RowB w0 w' 5 v' (us ++ Lib.strCells t) → (∀ k s pos, ItAt w k s pos → ItAt w' k s pos) → v' ≠ .slice none 0 0 → wpList Tryz.prog ops Q rest (a.put o.dst v') w') : wpList Tryz.prog ops Q (o :: rest) a w := by
 refine Lib.wpList_append_own_string w hgd s x 257 9 ho w0.heap.size 5 info5 elem5.sl Tryz.underlying9 elem5.inf elem5.zero elem5.size (by kernel_rfl) v us.length us hs hR.own t hx (by unfold maxLen; omega) (by omega) hR.below.size ?_
 intro v' w' hown hg hn
 refine h v' w' ⟨by rw [List.length_append, Lib.strCells_length]; exact hown, hR.below.grown hg hR.below.size (fun k hk => (hR.block k hk).1)⟩ (fun k s pos hk => hk.grown hg (ItAt.ne hR hk)) (fun he => ?_)
 have := (hn.1 he).2
 omega
theorem RowB.strs {w0 w : World} {v : Value} {l : List ByteArray} (h : RowB w0 w 9 v (l.map Value.string)) : Strs w v l := by
 obtain ⟨⟨hl, h1 | ⟨g, cap, cur, rfl, hg, hc, hn, hcap, hsz, ht⟩⟩, _⟩ := h
 ·have : l = [] := by have := h1.2; simp at this; exact this
  subst this
  exact ⟨none, 0, by rw [h1.1]; rfl, fun i hi => by simp at hi⟩
 ·refine ⟨some ⟨g, 0, none⟩, cap, by simp, fun i hi => ⟨⟨g, 0, none⟩, rfl, ?_⟩⟩
  rw [add_plain, blk_cell hc i]
  have h2 : (cur.toList.take ((l.map Value.string).length * 1))[i]? = some (.string l[i]) := by rw [ht]; simp [hi]
  rw [List.getElem?_take] at h2
  split at h2
  ·simpa using h2
  ·cases h2
theorem Strs.of {w0 w : World} {v : Value} {l : List ByteArray} (h : RowB w0 w 9 v (l.map Value.string)) : Strs w v l := h.strs
theorem Strs.base {w0 w : World} {e : TypeId} {v : Value} {us : List Value} (h : RowB w0 w e v us) : ∀ ad n c, v = .slice (some ad) n c → w0.heap.size ≤ ad.block := by
 rintro ad n c rfl
 exact (h.block ad.block rfl).1
def unitL (u : Txt) : Nat × Nat :=
 if u = [110, 115] then (1, 0) else if u = [117, 115] then (1000, 3) else if u = [194, 181, 115] then (1000, 3) else if u = [206, 188, 115] then (1000, 3)
 else if u = [109, 115] then (1000000, 6) else if u = [115] then (1000000000, 9) else if u = [109] then (60000000000, 10) else if u = [104] then (3600000000000, 11) else (0, 0)
def stopU (c : UInt8) : Bool := dig c || c.toNat == 46
def inU (c : UInt8) : Bool := !stopU c
def fracD : Txt → Txt
 | [] => []
 | c :: t => if c.toNat = 46 then t.takeWhile dig else []
def aftF : Txt → Txt
 | [] => []
 | c :: t => if c.toNat = 46 then t.dropWhile dig else c :: t
def TermR (l : Txt) (n : Nat) (rest : Txt) : Prop :=
 ∃ ds fs u : Txt, ds = l.takeWhile dig ∧ fs = fracD (l.dropWhile dig) ∧ u = (aftF (l.dropWhile dig)).takeWhile inU ∧ rest = (aftF (l.dropWhile dig)).dropWhile inU ∧
  ds.length ≤ 15 ∧ (ds ≠ [] ∨ fs ≠ []) ∧ fs.length ≤ (unitL u).2 ∧ 0 < (unitL u).1 ∧ val ds + 1 ≤ 4611686018427387904 / (unitL u).1 ∧ n = val ds * (unitL u).1 + val fs * ((unitL u).1 / 10 ^ fs.length)
def SumR : Nat → Txt → Nat → Prop
 | 0, l, s => l = [] ∧ s = 0
 | k + 1, l, s => (l = [] ∧ s = 0) ∨ (l ≠ [] ∧ ∃ n rest m, TermR l n rest ∧ SumR k rest m ∧ s = n + m)
def DurR (l : Txt) (d : Int) : Prop :=
 ∃ (neg : Bool) (t : Txt), ((l = 45 :: t ∧ neg = true) ∨ (l = 43 :: t ∧ neg = false) ∨ (l = t ∧ neg = false ∧ l.head? ≠ some 45 ∧ l.head? ≠ some 43)) ∧
  ((t = [48] ∧ d = 0) ∨ (t ≠ [48] ∧ t ≠ [] ∧ ∃ k s, SumR k t s ∧ s ≤ 4611686018427387904 ∧ d = if neg then -(s : Int) else (s : Int)))
theorem val_snoc (l : Txt) (c : UInt8) : val (l ++ [c]) = 10 * val l + (c.toNat - 48) := by unfold val; rw [List.foldl_append]; rfl
theorem dig_rng {c : UInt8} (h : dig c = true) : 48 ≤ c.toNat ∧ c.toNat ≤ 57 := by unfold dig at h; simpa using h
theorem val_lt (l : Txt) (h : ∀ c ∈ l, dig c = true) : val l < 10 ^ l.length := by
 suffices key : ∀ (l : Txt) (n k : Nat), (∀ c ∈ l, dig c = true) → n < 10 ^ k → l.foldl dval n < 10 ^ (k + l.length) by
  have := key l 0 0 h (by decide); rwa [Nat.zero_add] at this
 intro l
 induction l with
 | nil => intro n k _ h; exact h
 | cons c l ih =>
  intro n k h hn
  rw [List.foldl_cons, show k + (c :: l).length = (k + 1) + l.length by simp; omega]
  refine ih _ _ (fun x hx => h x (List.mem_cons_of_mem _ hx)) ?_
  have := dig_rng (h c (List.mem_cons_self ..))
  unfold dval
  rw [Nat.pow_succ]
  omega
theorem at_drop {s : ByteArray} {i : Nat} {c : UInt8} {t : Txt} (h : (toL s).drop i = c :: t) :
  i < s.size ∧ bt s (i : Int) = (c.toNat : Int) ∧ (toL s).drop (i + 1) = t ∧ (toL s).take (i + 1) = (toL s).take i ++ [c] := by
 have hlt : i < s.size := by
  rcases Nat.lt_or_ge i s.size with h1 | h1
  ·exact h1
  ·rw [List.drop_eq_nil_of_le (by rw [toL_len]; exact h1)] at h; cases h
 have hl' : i < (toL s).length := by rw [toL_len]; exact hlt
 rw [List.drop_eq_getElem_cons hl'] at h
 injection h with h1 h2
 exact ⟨hlt, by rw [bt_nat s i hlt, h1], h2, by rw [List.take_succ_eq_append_getElem hl', h1]⟩
theorem drop_nil {s : ByteArray} {i : Nat} (h : (toL s).drop i = []) : s.size ≤ i := by
 rw [List.drop_eq_nil_iff, toL_len] at h; exact h
theorem unit_f (s : ByteArray) : Ev (fun k => spec_cronUnit.f k s) (((unitL (toL s)).1 : Int), ((unitL (toL s)).2 : Int)) := by
 have hj : ∀ b : Bool, Ev (fun k => spec_cronUnit.j0 k s b) (if b = true then ((1000, 3) : Int × Int) else if toL s = [109, 115] then (1000000, 6) else if toL s = [115] then (1000000000, 9) else if toL s = [109] then (60000000000, 10) else if toL s = [104] then (3600000000000, 11) else (0, 0)) := fun b => by
  refine Ev.step (f := fun _ => some (if b = true then ((1000, 3) : Int × Int) else if toL s = [109, 115] then (1000000, 6) else if toL s = [115] then (1000000000, 9) else if toL s = [109] then (60000000000, 10) else if toL s = [104] then (3600000000000, 11) else (0, 0))) (fun k => ?_) (Ev.now _)
  simp only [spec_cronUnit.j0, toList_toL, apply_ite some]
 unfold unitL
 by_cases h1 : toL s = [110, 115]
 ·rw [if_pos h1]
  refine Ev.congr (f := fun _ => some (1, 0)) (fun k => ?_) (Ev.now _)
  unfold spec_cronUnit.f; rw [toList_toL, if_pos h1]
 rw [if_neg h1]
 by_cases h2 : toL s = [117, 115]
 ·rw [if_pos h2]
  refine Ev.congr (fun k => ?_) (hj true)
  unfold spec_cronUnit.f; rw [toList_toL, if_neg h1, if_pos h2, h2]; rfl
 rw [if_neg h2]
 by_cases h3 : toL s = [194, 181, 115]
 ·rw [if_pos h3]
  refine Ev.congr (fun k => ?_) (hj true)
  unfold spec_cronUnit.f; rw [toList_toL, if_neg h1, if_neg h2, if_pos h3, h3]; rfl
 rw [if_neg h3]
 by_cases h4 : toL s = [206, 188, 115]
 ·rw [if_pos h4]
  refine Ev.congr (fun k => ?_) (hj true)
  unfold spec_cronUnit.f; rw [toList_toL, if_neg h1, if_neg h2, if_neg h3, h4]; rfl
 rw [if_neg h4]
 have h4' : (toL s == [206, 188, 115]) = false := by simpa using h4
 have := hj false
 rw [if_neg (by decide)] at this
 refine Ev.congr (f := fun k => spec_cronUnit.j0 k s false) (fun k => ?_) ?_
 ·unfold spec_cronUnit.f; rw [toList_toL, if_neg h1, if_neg h2, if_neg h3, h4']
 ·by_cases a1 : toL s = [109, 115]
  ·rw [if_pos a1] at this ⊢; exact this
  rw [if_neg a1] at this ⊢
  by_cases a2 : toL s = [115]
  ·rw [if_pos a2] at this ⊢; exact this
  rw [if_neg a2] at this ⊢
  by_cases a3 : toL s = [109]
  ·rw [if_pos a3] at this ⊢; exact this
  rw [if_neg a3] at this ⊢
  by_cases a4 : toL s = [104]
  ·rw [if_pos a4] at this ⊢; exact this
  rw [if_neg a4] at this ⊢
  exact this
theorem tw_take (P : UInt8 → Bool) : ∀ l : Txt, l.take (l.takeWhile P).length = l.takeWhile P ∧ l.drop (l.takeWhile P).length = l.dropWhile P ∧ (l.takeWhile P).length ≤ l.length := by
 intro l
 induction l with
 | nil => simp
 | cons c l ih =>
  cases h : P c with
  | true =>
   rw [List.takeWhile_cons_of_pos h, List.dropWhile_cons_of_pos h]
   simp [ih.1, ih.2.1, ih.2.2]
  | false =>
   rw [List.takeWhile_cons_of_neg (by simp [h]), List.dropWhile_cons_of_neg (by simp [h])]
   simp
theorem tw_all (P : UInt8 → Bool) : ∀ l : Txt, ∀ c ∈ l.takeWhile P, P c = true := by
 intro l
 induction l with
 | nil => intro c hc; simp at hc
 | cons x l ih =>
  intro c hc
  cases h : P x with
  | true =>
   rw [List.takeWhile_cons_of_pos h] at hc
   rcases List.mem_cons.1 hc with rfl | hc
   ·exact h
   ·exact ih c hc
  | false => rw [List.takeWhile_cons_of_neg (by simp [h])] at hc; simp at hc
theorem unitL_most (u : Txt) : (unitL u).2 ≤ 11 := by
 unfold unitL
 repeat' split
 all_goals decide
theorem unitL_div (u : Txt) : ∀ q, q ≤ (unitL u).2 → (unitL u).1 ≤ 3600000000000 ∧ (0 < (unitL u).1 → 10 ^ q ∣ (unitL u).1) := by
 intro q hq
 have key : ∀ (a b : Nat), unitL u = (a, b) → (10 ^ b ∣ a) → a ≤ 3600000000000 → (unitL u).1 ≤ 3600000000000 ∧ (0 < (unitL u).1 → 10 ^ q ∣ (unitL u).1) := by
  intro a b e h1 h2
  rw [e] at hq ⊢
  exact ⟨h2, fun _ => Nat.dvd_trans (Nat.pow_dvd_pow 10 hq) h1⟩
 unfold unitL at key ⊢
 by_cases h1 : u = [110, 115]
 ·exact key 1 0 (by rw [if_pos h1]) (by decide) (by decide)
 by_cases h2 : u = [117, 115]
 ·exact key 1000 3 (by rw [if_neg h1, if_pos h2]) (by decide) (by decide)
 by_cases h3 : u = [194, 181, 115]
 ·exact key 1000 3 (by rw [if_neg h1, if_neg h2, if_pos h3]) (by decide) (by decide)
 by_cases h4 : u = [206, 188, 115]
 ·exact key 1000 3 (by rw [if_neg h1, if_neg h2, if_neg h3, if_pos h4]) (by decide) (by decide)
 by_cases h5 : u = [109, 115]
 ·exact key 1000000 6 (by rw [if_neg h1, if_neg h2, if_neg h3, if_neg h4, if_pos h5]) (by decide) (by decide)
 by_cases h6 : u = [115]
 ·exact key 1000000000 9 (by rw [if_neg h1, if_neg h2, if_neg h3, if_neg h4, if_neg h5, if_pos h6]) (by decide) (by decide)
 by_cases h7 : u = [109]
 ·exact key 60000000000 10 (by rw [if_neg h1, if_neg h2, if_neg h3, if_neg h4, if_neg h5, if_neg h6, if_pos h7]) (by decide) (by decide)
 by_cases h8 : u = [104]
 ·exact key 3600000000000 11 (by rw [if_neg h1, if_neg h2, if_neg h3, if_neg h4, if_neg h5, if_neg h6, if_neg h7, if_pos h8]) (by decide) (by decide)
 ·rw [if_neg h1, if_neg h2, if_neg h3, if_neg h4, if_neg h5, if_neg h6, if_neg h7, if_neg h8]
  exact ⟨by decide, fun h => absurd h (by decide)⟩
theorem wrapAB (A B : Nat) (h : A + B ≤ 4611686018427387904) : wrap64 (wrap64 (A : Int) + wrap64 (B : Int)) = ((A + B : Nat) : Int) := by
 unfold wrap64; omega
theorem wrapW (x y un z X q : Nat) (h1 : x + 1 ≤ X) (h2 : X * un ≤ 4611686018427387904) (h3 : y ≤ 10 ^ q) (hz : un / 10 ^ q = z) : wrap64 (wrap64 ((x : Int) * (un : Int)) + wrap64 ((y : Int) * (z : Int))) = ((x * un + y * z : Nat) : Int) ∧ x * un + y * z ≤ 4611686018427387904 := by
 have hm1 : x * un + un ≤ 4611686018427387904 := by
  have : (x + 1) * un ≤ X * un := Nat.mul_le_mul_right _ h1
  rw [Nat.add_mul, Nat.one_mul] at this; omega
 have hm2 : y * z ≤ un := by
  rw [← hz]
  exact Nat.le_trans (Nat.mul_le_mul_right _ h3) (Nat.mul_div_le _ _)
 refine ⟨?_, by omega⟩
 rw [← Int.natCast_mul, ← Int.natCast_mul]
 exact wrapAB _ _ (by omega)
theorem q62 (un : Nat) (h0 : 0 < un) (hm : un ≤ 3600000000000) : ∃ X : Nat, wrap64 ((4611686018427387904 : Int) / (un : Int) - 1) = (X : Int) - 1 ∧ X = 4611686018427387904 / un ∧ X * un ≤ 4611686018427387904 := by
 have hd : (4611686018427387904 : Int) / (un : Int) = ((4611686018427387904 / un : Nat) : Int) := by simp
 have h1 : 4611686018427387904 / un ≤ 4611686018427387904 := Nat.div_le_self _ _
 refine ⟨4611686018427387904 / un, ?_, rfl, Nat.div_mul_le_self _ _⟩
 rw [hd]
 generalize 4611686018427387904 / un = X at *
 clear hd
 unfold wrap64; omega
theorem div_ten (un j z : Nat) (hz : un / 10 ^ j = z) : ((z : Int) / 10) = ((un / 10 ^ (j + 1) : Nat) : Int) := by
 rw [Nat.pow_succ, ← Nat.div_div_eq_div_mul, hz]; rfl
end Go.Proofs.YtcjdideliifkhaaGreatDoor
