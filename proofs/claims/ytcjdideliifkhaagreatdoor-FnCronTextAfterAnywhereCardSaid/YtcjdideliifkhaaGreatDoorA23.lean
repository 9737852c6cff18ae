import Derived.Test.YtcjdideliifkhaaGreatDoorA22
set_option maxRecDepth 100000
set_option maxHeartbeats 16000000
namespace Go.Proofs.YtcjdideliifkhaaGreatDoor
open Go.RowKit Go.Proofs.YtcjdideliifkhaaGreatDoorW.PrintWords
set_option linter.unusedVariables false
set_option linter.unusedSimpArgs false
structure IRow (w0 : World) (b o n : Nat) : Prop where
 lt : b < w0.heap.size
 few : n < 100000
 at_ : ∀ i, i < n → ∃ x, w0.cell? ⟨b, o + i, none⟩ = some (.int .i64 x)
structure BRow (w0 : World) (b o n : Nat) : Prop where
 lt : b < w0.heap.size
 few : n < 100000
 at_ : ∀ i, i < n → ∃ x, w0.cell? ⟨b, o + i, none⟩ = some (.bool x)
theorem IRow.below {w w' : World} {b o n : Nat} (h : IRow w b o n) (hb : Below w.heap.size w w') : IRow w' b o n :=
 ⟨Nat.lt_of_lt_of_le h.lt hb.size, h.few, fun i hi => (h.at_ i hi).imp fun x hx => (hb.cell (p := ⟨_, _, none⟩) h.lt).trans hx⟩
theorem BRow.below {w w' : World} {b o n : Nat} (h : BRow w b o n) (hb : Below w.heap.size w w') : BRow w' b o n :=
 ⟨Nat.lt_of_lt_of_le h.lt hb.size, h.few, fun i hi => (h.at_ i hi).imp fun x hx => (hb.cell (p := ⟨_, _, none⟩) h.lt).trans hx⟩
section
variable {w0 : World} {u : Nat}
def ZoneQ (w0 : World) (e : Ending) (w' : World) : Prop := ∃ u, e = .returned (.pointer (some ⟨u, 0, none⟩)) ∧ w0.heap.size ≤ u ∧ u < w'.heap.size ∧ w'.cell? ⟨u, 0, none⟩ = some (.bool false) ∧ Below w0.heap.size w0 w'
def ZL1 (w0 : World) (u : Nat) (v0 v1 v2 v3 sw : Value) (n : Nat) (k : Nat) (a : Act) (w : World) : Prop :=
 ∃ i, i + k = n ∧ Kn 64 a [(0, v0), (1, v1), (2, v2), (3, v3), (9, .pointer (some ⟨u, 0, none⟩)), (16, v0), (17, .int .i64 (n : Int)), (18, .int .i64 (i : Int))] ∧
  (∃ sv, ZAt w0 u 2 sv w ∧ ZRow w0 u 190 3 sv i w) ∧ w.cell? ⟨u, 3, none⟩ = some sw ∧ w.frozen? ⟨u, 3, none⟩ = false
def ZL2 (w0 : World) (u : Nat) (v0 v1 v2 v3 : Value) (n : Nat) (k : Nat) (a : Act) (w : World) : Prop :=
 ∃ i, i + k = n ∧ Kn 64 a [(0, v0), (1, v1), (2, v2), (3, v3), (9, .pointer (some ⟨u, 0, none⟩)), (39, v2), (40, .int .i64 (n : Int)), (41, .int .i64 (i : Int))] ∧
  (∃ sv, ZAt w0 u 3 sv w ∧ ZRow w0 u 192 4 sv i w)
theorem zloop1 {ob oo co db do_ cd n : Nat} {v2 v3 sw : Value} (ho : IRow w0 ob oo n) (hd : BRow w0 db do_ n)
  (c : Code) (hc : blockAt 0 (Tryz.f69.body.getD .skip) = some c) {a : Act} {w : World}
  (h : ZL1 w0 u (.slice (some ⟨ob, oo, none⟩) n co) (.slice (some ⟨db, do_, none⟩) n cd) v2 v3 sw n n a w) :
  c.wp Tryz.prog (Exit.then (fun a' w' => Kn 64 a' [(0, .slice (some ⟨ob, oo, none⟩) n co), (1, .slice (some ⟨db, do_, none⟩) n cd), (2, v2), (3, v3), (9, .pointer (some ⟨u, 0, none⟩))] ∧ (∃ sv, ZAt w0 u 2 sv w') ∧ w'.cell? ⟨u, 3, none⟩ = some sw ∧ w'.frozen? ⟨u, 3, none⟩ = false) (fun _ _ _ => False)) a w := by
 simp [Tryz.f69, blockAt] at hc
 subst hc
 refine wp_block (wp_loop_ghost (ZL1 w0 u (.slice (some ⟨ob, oo, none⟩) n co) (.slice (some ⟨db, do_, none⟩) n cd) v2 v3 sw n) n h ?_)
 have hfew := hd.few
 rintro k a w ⟨i, hik, hk, ⟨sv, hz, hr⟩, hx, hxf⟩
 refine seq_of (zr3 hk _ (by kernel_rfl)) fun a1 w1 h1 => ?_
 obtain ⟨rfl, z1, z2, z3, z4, z5, z6, z7, z8, z9, z10, z11, -⟩ := h1
 by_cases hi : i < n
 ·rw [decide_eq_true (show (i : Int) < (n : Int) by omega)] at z11
  refine wp_seq (wp_cond_true z11 (wp_skip ?_))
  obtain ⟨o, hoc⟩ := ho.at_ i hi
  have hoc1 : w1.cell? ⟨ob, oo + i, none⟩ = some (.int .i64 o) := (hz.below.cell (p := ⟨ob, _, none⟩) ho.lt).trans hoc
  refine wp_seq (wp_block (seq_of (zr4 hi hoc1 ⟨z1, z2, z3, z4, z5, z6, z7, z8, z9, z10, trivial⟩ _ (by kernel_rfl)) fun a2 w2 h2 => ?_))
  obtain ⟨rfl, y1, y2, y3, y4, y5, y6, y7, y8, y9, y10, y11, y12, -⟩ := h2
  refine last_of (zr5 trivial hi hd.few hd.lt (hd.at_ i hi) (by omega) ⟨y1, y2, y4, y7, y11, y12, trivial⟩ hz hr _ (by kernel_rfl)) fun a3 w3 h3 => ?_
  obtain ⟨⟨x1, x2, x3⟩, sv', hz', hr', hf3, hc3⟩ := h3
  show Code.wp _ _ _ _ _
  refine last_of (zr6 (by omega) ⟨x1, x2, (x3 0 (by decide)).trans y3, (x3 1 (by decide)).trans y4, (x3 2 (by decide)).trans y5, (x3 3 (by decide)).trans y6, (x3 9 (by decide)).trans y7, (x3 16 (by decide)).trans y8, (x3 17 (by decide)).trans y9, (x3 18 (by decide)).trans y10, trivial⟩ _ (by kernel_rfl)) fun a4 w4 h4 => ?_
  obtain ⟨rfl, hk4⟩ := h4
  exact ⟨k - 1, by omega, i + 1, by omega, hk4, ⟨sv', hz', hr'⟩, hc3.trans hx, hf3.trans hxf⟩
 ·rw [decide_eq_false (show ¬ (i : Int) < (n : Int) by omega)] at z11
  refine wp_seq (wp_cond_false z11 (wp_exit ?_))
  simp only [Exit.then, Exit.inBlock, ↓reduceIte]
  exact ⟨⟨z1, z2, z3, z4, z5, z6, z7, trivial⟩, ⟨sv, hz⟩, hx, hxf⟩
theorem zloop2 {wb wo cw xb xo cx n : Nat} {v0 v1 : Value} (ho : IRow w0 wb wo n) (hd : IRow w0 xb xo n)
  (c : Code) (hc : blockAt 2 (Tryz.f69.body.getD .skip) = some c) {a : Act} {w : World}
  (h : ZL2 w0 u v0 v1 (.slice (some ⟨wb, wo, none⟩) n cw) (.slice (some ⟨xb, xo, none⟩) n cx) n n a w) :
  c.wp Tryz.prog (Exit.then (fun a' w' => Kn 64 a' [(9, .pointer (some ⟨u, 0, none⟩))] ∧ (∃ sv, ZAt w0 u 3 sv w')) (fun _ _ _ => False)) a w := by
 simp [Tryz.f69, blockAt] at hc
 subst hc
 refine wp_block (wp_loop_ghost (ZL2 w0 u v0 v1 (.slice (some ⟨wb, wo, none⟩) n cw) (.slice (some ⟨xb, xo, none⟩) n cx) n) n h ?_)
 have hfew := hd.few
 rintro k a w ⟨i, hik, hk, ⟨sv, hz, hr⟩⟩
 refine seq_of (zr8 hk _ (by kernel_rfl)) fun a1 w1 h1 => ?_
 obtain ⟨rfl, z1, z2, z3, z4, z5, z6, z7, z8, z9, z10, z11, -⟩ := h1
 by_cases hi : i < n
 ·rw [decide_eq_true (show (i : Int) < (n : Int) by omega)] at z11
  refine wp_seq (wp_cond_true z11 (wp_skip ?_))
  obtain ⟨o, hoc⟩ := ho.at_ i hi
  have hoc1 : w1.cell? ⟨wb, wo + i, none⟩ = some (.int .i64 o) := (hz.below.cell (p := ⟨wb, _, none⟩) ho.lt).trans hoc
  refine wp_seq (wp_block (seq_of (zr9 hi hoc1 ⟨z1, z2, z3, z4, z5, z6, z7, z8, z9, z10, trivial⟩ _ (by kernel_rfl)) fun a2 w2 h2 => ?_))
  obtain ⟨rfl, y1, y2, y3, y4, y5, y6, y7, y8, y9, y10, y11, y12, -⟩ := h2
  refine last_of (zr10 trivial hi hd.few hd.lt (hd.at_ i hi) (by omega) ⟨y1, y2, y6, y7, y11, y12, trivial⟩ hz hr _ (by kernel_rfl)) fun a3 w3 h3 => ?_
  obtain ⟨⟨x1, x2, x3⟩, sv', hz', hr', hf3, hc3⟩ := h3
  show Code.wp _ _ _ _ _
  refine last_of (zr11 (by have := hd.few; omega) ⟨x1, x2, (x3 0 (by decide)).trans y3, (x3 1 (by decide)).trans y4, (x3 2 (by decide)).trans y5, (x3 3 (by decide)).trans y6, (x3 9 (by decide)).trans y7, (x3 39 (by decide)).trans y8, (x3 40 (by decide)).trans y9, (x3 41 (by decide)).trans y10, trivial⟩ _ (by kernel_rfl)) fun a4 w4 h4 => ?_
  obtain ⟨rfl, hk4⟩ := h4
  exact ⟨k - 1, by omega, i + 1, by omega, hk4, ⟨sv', hz', hr'⟩⟩
 ·rw [decide_eq_false (show ¬ (i : Int) < (n : Int) by omega)] at z11
  refine wp_seq (wp_cond_false z11 (wp_exit ?_))
  simp only [Exit.then, Exit.inBlock, ↓reduceIte]
  exact ⟨⟨z1, z2, z7, trivial⟩, ⟨sv, hz⟩⟩
theorem ZRow.none_ (w0 : World) (u e size : Nat) (w : World) : ZRow w0 u e size (.slice none 0 0) 0 w := ⟨by simp [Value.ownBlock], [], World.ownsRow_nil _ _ _ _⟩
theorem zzzone_c {ob oo co db do_ cd n wb wo cw xb xo cx m : Nat} (w : World) (ho : IRow w ob oo n) (hd : BRow w db do_ n) (hw : IRow w wb wo m) (hx : IRow w xb xo m) :
  Calls Tryz.prog 69 #[.slice (some ⟨ob, oo, none⟩) n co, .slice (some ⟨db, do_, none⟩) n cd, .slice (some ⟨wb, wo, none⟩) m cw, .slice (some ⟨xb, xo, none⟩) m cx] w (ZoneQ w) := by
 go_enter Tryz.func69, Tryz.ntmps69
 go_upto_region 2 with (fail)
 rename_i K2 hK2 K1 hK1
 have hz : ZAt w w.heap.size 2 (.slice none 0 0) (w.alloc (Obj.cells #[Value.bool false, Value.string { data := #[122, 111, 110, 101] }, Value.slice none 0 0, Value.slice none 0 0, Value.string { data := #[] }, Value.int IntKind.i64 0, Value.int IntKind.i64 0, Value.pointer none] 150)) :=
  ⟨(Below.refl _ _).alloc (Nat.le_refl _) _, by simp, Nat.le_refl _, by simp [go_sem], by simp [go_sem], by simp [go_sem]⟩
 have hx3 : (w.alloc (Obj.cells #[Value.bool false, Value.string { data := #[122, 111, 110, 101] }, Value.slice none 0 0, Value.slice none 0 0, Value.string { data := #[] }, Value.int IntKind.i64 0, Value.int IntKind.i64 0, Value.pointer none] 150)).cell? ⟨w.heap.size, 3, none⟩ = some (.slice none 0 0) := by simp [go_sem]
 have hf3 : (w.alloc (Obj.cells #[Value.bool false, Value.string { data := #[122, 111, 110, 101] }, Value.slice none 0 0, Value.slice none 0 0, Value.string { data := #[] }, Value.int IntKind.i64 0, Value.int IntKind.i64 0, Value.pointer none] 150)).frozen? ⟨w.heap.size, 3, none⟩ = false := by simp [go_sem]
 generalize w.alloc (Obj.cells #[Value.bool false, Value.string { data := #[122, 111, 110, 101] }, Value.slice none 0 0, Value.slice none 0 0, Value.string { data := #[] }, Value.int IntKind.i64 0, Value.int IntKind.i64 0, Value.pointer none] 150) = W at *
 refine wp_mono (zr2 (u := w.heap.size) (v0 := .slice (some ⟨ob, oo, none⟩) n co) (v1 := .slice (some ⟨db, do_, none⟩) n cd) (v2 := .slice (some ⟨wb, wo, none⟩) m cw) (v3 := .slice (some ⟨xb, xo, none⟩) m cx) rfl ⟨rfl, rfl, rfl, rfl, rfl, rfl, rfl, trivial⟩ _ (by kernel_rfl)) ?_
 intro e a1 w1 hq
 cases e <;> try exact False.elim hq
 obtain ⟨rfl, hk⟩ := hq
 refine hK1 _ _ (wp_mono (zloop1 (sw := .slice none 0 0) ho hd _ (by kernel_rfl) ⟨0, by omega, hk, ⟨_, hz, ZRow.none_ _ _ _ _ _⟩, hx3, hf3⟩) ?_)
 intro e a2 w2 hq
 cases e <;> try exact False.elim hq
 obtain ⟨hk2, ⟨sv, hz2⟩, hx2, hf2⟩ := hq
 refine hK2 _ _ (wp_seq (seq_of (zr7 rfl hk2 _ (by kernel_rfl)) fun a3 w3 h3 => ?_))
 obtain ⟨rfl, hk3⟩ := h3
 have hz3 : ZAt w w.heap.size 3 (.slice none 0 0) w3 := ⟨hz2.below, hz2.lt, hz2.ge, hz2.c0, hx2, hf2⟩
 refine wp_mono (zloop2 hw hx _ (by kernel_rfl) ⟨0, by omega, hk3, ⟨_, hz3, ZRow.none_ _ _ _ _ _⟩⟩) ?_
 intro e a4 w4 hq
 cases e <;> try exact False.elim hq
 obtain ⟨hk4, sv', hz4⟩ := hq
 refine seq_of (zr12 hk4 _ (by kernel_rfl)) fun a5 w5 h5 => wp_ret ?_
 obtain ⟨rfl, y1, y2, y3, -⟩ := h5
 simp only [Array.getD_eq_getD_getElem?] at y3
 exact ⟨y2, .pointer (some ⟨w.heap.size, 0, none⟩), by simp [results, Tryz.f69, go_sem, y3], w.heap.size, rfl, Nat.le_refl _, hz4.lt, hz4.c0, hz4.below⟩
end
abbrev zval (ob oo n co db do_ cd wb wo m cw xb xo cx : Nat) : Value := .agg #[.slice (some ⟨ob, oo, none⟩) n co, .slice (some ⟨db, do_, none⟩) n cd, .slice (some ⟨wb, wo, none⟩) m cw, .slice (some ⟨xb, xo, none⟩) m cx]
theorem location_zone {ob oo co db do_ cd n wb wo cw xb xo cx m : Nat} (w : World) (hn : 0 < n) (ho : IRow w ob oo n) (hd : BRow w db do_ n) (hw : IRow w wb wo m) (hx : IRow w xb xo m) :
  Calls Tryz.prog 33 #[zval ob oo n co db do_ cd wb wo m cw xb xo cx] w fun e w' => ∃ o, e = .returned (.pointer (some ⟨o, 0, none⟩)) ∧ Org w' o (.pointer (some ⟨o, 0, none⟩)) ∧ Below w.heap.size w w' := by
 have hn1 := ho.few
 have j0 : ¬ (n : Int) = 0 := by omega
 go_enter Tryz.func33, Tryz.ntmps33
 have hB : Below w.heap.size w (w.alloc (Obj.cells #[Value.slice (some ⟨ob, oo, none⟩) n co, Value.slice (some ⟨db, do_, none⟩) n cd, Value.slice (some ⟨wb, wo, none⟩) m cw, Value.slice (some ⟨xb, xo, none⟩) m cx] 28)) := (Below.refl _ _).alloc (Nat.le_refl _) _
 have HO := Lib.hid (ho.below hB)
 have HD := Lib.hid (hd.below hB)
 have HW := Lib.hid (hw.below hB)
 have HX := Lib.hid (hx.below hB)
 have HB := Lib.hid hB
 clear ho hd hw hx hB
 go_wp2_with (go_at_call 69; refine (zzzone_c _ HO.out HD.out HW.out HX.out).mono ?_; rintro e w1 ⟨o, rfl, h1, h2, h3, h4⟩)
 go_ret
 exact ⟨_, rfl, .inr ⟨h2, h3, rfl⟩, HB.out.trans (h4.mono HB.out.size)⟩
end Go.Proofs.YtcjdideliifkhaaGreatDoor
namespace Go
open Go.RowKit
section
variable {P : Program} {ops : Array Oper} {Q : Exit → Act → World → Prop}
def Region.looksOk (ops : Array Oper) (i : Nat) (o : Oper) : Bool :=
 (match o.guard with | none => true | some g => (Region.depsOf ops i).contains g.1 && (Region.dstOf ops g.1).isSome) && (match o.op with | .select _ _ => false | _ => true) && o.op.operands.toList.all fun x => match x with
  | .tmp t => (List.range ops.size).all fun j => Region.dstOf ops j != some t || (Region.depsOf ops i).contains j
  | _ => true
def Region.detOk (ops : Array Oper) (m : Nat) (ks : List Tmp) (n : Nat) : Bool :=
 Region.back ops && (match ops[m]? with | some o => o.guard.isNone && o.dst.isNone | none => true) && Region.dstsOk ops n && Region.dstsApart ops &&
 (List.range ops.size).all (fun i => i == m || match ops[i]? with | some o => Region.looksOk ops i o && (match o.dst with | some t => ks.contains t | none => true) | none => true) &&
 ks.all (fun t => (List.range ops.size).any fun j => j != m && Region.dstOf ops j == some t)
def Region.DetStep (P : Program) (ops : Array Oper) (F : Act) (o : Oper) (w : World) : Option (Nat × Bool) → Prop
 | none => o.wp P F w (fun a' w' => a' = F ∧ Below w.heap.size w w') (fun _ _ _ => False)
 | some (j, want) => match F.tmps.getD ((Region.dstOf ops j).getD 0) undef with
  | .bool b => (b = want → o.wp P F w (fun a' w' => a' = F ∧ Below w.heap.size w w') (fun _ _ _ => False)) ∧ (b ≠ want → (o.dst.map fun d => F.tmps.getD d undef).getD undef = undef)
  | _ => (o.dst.map fun d => F.tmps.getD d undef).getD undef = undef
def Region.DetSteps (P : Program) (ops : Array Oper) (S : World → Prop) (F : Act) (m : Nat) : Nat → List Oper → Prop
 | _, [] => True
 | i, o :: l => (i ≠ m → ∀ w, S w → Region.DetStep P ops F o w o.guard) ∧ Region.DetSteps P ops S F m (i + 1) l
def Region.DetV (ops : Array Oper) (F : Act) (j : Nat) (v : Value) (_ : World) : Prop := match Region.dstOf ops j with | some t => v = F.tmps.getD t undef | none => True
theorem Oper.wp_act {o : Oper} {a F : Act} {w : World} (he : execOp a.eval o = execOp F.eval o) (hd : ∀ t, o.dst = some t → t < F.tmps.size)
  (h : o.wp P F w (fun a' w' => a' = F ∧ Below w.heap.size w w') (fun _ _ _ => False)) :
  o.wp P a w (fun a' w' => ∃ v, a' = a.put o.dst v ∧ (∀ t, o.dst = some t → v = F.tmps.getD t undef) ∧ Below w.heap.size w w') Q := by
 have key : ∀ v w', (F.put o.dst v = F ∧ Below w.heap.size w w') → ∃ v', a.put o.dst v = a.put o.dst v' ∧ (∀ t, o.dst = some t → v' = F.tmps.getD t undef) ∧ Below w.heap.size w w' := fun v w' ⟨h1, h2⟩ => by
  refine ⟨v, rfl, fun t ht => ?_, h2⟩
  rw [ht] at h1
  have h3 := hd t ht
  have h4 : (F.put (some t) v).tmps.getD t undef = v := by simp [Act.put, Array.getD, h3]
  rw [h1] at h4; exact h4.symm
 unfold Oper.wp at *
 rw [he]
 generalize (execOp F.eval o).run P w = r at *
 cases r with
 | ok n w' =>
  cases n with
  | value v => exact key _ _ h
  | skip => exact key _ _ h
  | defer d =>
   exfalso
   have h1 : ({ F with defers := d :: F.defers }.put o.dst undef).defers = F.defers := by rw [h.1]
   have h2 : ({ F with defers := d :: F.defers }.put o.dst undef).defers = d :: F.defers := by cases o.dst <;> rfl
   rw [h2] at h1
   exact absurd (congrArg List.length h1) (by simp)
  | enter f args =>
   refine Calls.mono h fun e w'' he => ?_
   cases e with
   | returned v => exact key _ _ he
   | panicked c => exact he.elim
   | outgrown => obtain ⟨_, _, h⟩ := he; exact h.elim
  | row r args => exact Rows.mono h fun _ _ he => key _ _ he
  | _ => first | exact h | exact h.elim
 | halt x w' => cases x <;> first | exact h | exact h.elim
theorem Region.det_eval {a0 F a : Act} {m n : Nat} {ks : List Tmp} (hck : Region.detOk ops m ks n = true) (hF0 : ∀ t, t ∉ ks → F.tmps.getD t undef = a0.tmps.getD t undef) {i : Nat} {o : Oper} (ho : ops[i]? = some o) (him : i ≠ m) {w : World}
  (hA : Region.At ops (Region.DetV ops F) a0 (· ∈ Region.depsOf ops i) a w) : execOp a.eval o = execOp F.eval o := by
 unfold Region.detOk at hck
 simp only [Bool.and_eq_true] at hck
 obtain ⟨⟨-, hl⟩, hk⟩ := hck
 have hi : i < ops.size := by
  by_cases c : i < ops.size; exact c
  rw [Array.getElem?_eq_none (by omega)] at ho; cases ho
 have h1 := List.all_eq_true.1 hl i (by simpa using hi)
 rw [ho] at h1
 have him' : (i == m) = false := by simpa using him
 simp only [him', Bool.false_or, Bool.and_eq_true] at h1
 obtain ⟨h1, -⟩ := h1
 unfold Region.looksOk at h1
 rw [Bool.and_eq_true, Bool.and_eq_true] at h1
 refine execOp_congr o (fun cs b e => ?_) fun x hx => ?_
 ·rw [e] at h1; cases h1.1.2
 ·have h2 := List.all_eq_true.1 h1.2 x (by simpa using hx)
  cases x with
  | tmp t =>
   show a.tmps.getD t undef = F.tmps.getD t undef
   simp only at h2
   by_cases c : ∃ j, Region.dstOf ops j = some t
   ·obtain ⟨j, hj⟩ := c
    have hjl : j < ops.size := by
     by_cases c : j < ops.size; exact c
     unfold Region.dstOf at hj; rw [Array.getElem?_eq_none (by omega)] at hj; cases hj
    have h3 := List.all_eq_true.1 h2 j (by simpa using hjl)
    rw [hj] at h3
    have h4 := hA.got j t (by simpa using h3) hj
    unfold Region.DetV at h4
    rw [hj] at h4
    exact h4
   ·have hno : ∀ j, Region.dstOf ops j ≠ some t := fun j hj => c ⟨j, hj⟩
    rw [hA.old t hno, hF0 t (fun ht => ?_)]
    have h5 := List.all_eq_true.1 hk t ht
    obtain ⟨j, _, h6⟩ := List.any_eq_true.1 h5
    simp only [Bool.and_eq_true, beq_iff_eq] at h6
    exact hno j h6.2
  | _ => rfl
theorem Region.det_looks {m n : Nat} {ks : List Tmp} (hck : Region.detOk ops m ks n = true) {i : Nat} {o : Oper} (ho : ops[i]? = some o) (him : i ≠ m) : Region.looksOk ops i o = true := by
 unfold Region.detOk at hck
 simp only [Bool.and_eq_true] at hck
 obtain ⟨⟨-, hl⟩, -⟩ := hck
 have hi : i < ops.size := by
  by_cases c : i < ops.size; exact c
  rw [Array.getElem?_eq_none (by omega)] at ho; cases ho
 have h1 := List.all_eq_true.1 hl i (by simpa using hi)
 rw [ho] at h1
 have him' : (i == m) = false := by simpa using him
 simp only [him', Bool.false_or, Bool.and_eq_true] at h1
 exact h1.1
theorem Region.det_step {a0 F a : Act} {m n : Nat} {ks : List Tmp} {S : World → Prop} (hck : Region.detOk ops m ks n = true) (hsz : F.tmps.size = n) (hF0 : ∀ t, t ∉ ks → F.tmps.getD t undef = a0.tmps.getD t undef)
  (hstep : Region.DetSteps P ops S F m 0 ops.toList) {i : Nat} {o : Oper} (ho : ops[i]? = some o) (him : i ≠ m) {w : World} (hS : S w)
  (hA : Region.At ops (Region.DetV ops F) a0 (· ∈ Region.depsOf ops i) a w) :
  (Region.wanted o (yielded ops a.tmps) = true → o.wp P a w (fun a' w' => ∃ v, a' = a.put o.dst v ∧ Region.DetV ops F i v w' ∧ Below w.heap.size w w') Q) ∧ (Region.wanted o (yielded ops a.tmps) = false → Region.DetV ops F i undef w) := by
 have hat : ∀ (l : List Oper) (k : Nat), Region.DetSteps P ops S F m k l → ∀ i o, l[i]? = some o → k + i ≠ m → ∀ w, S w → Region.DetStep P ops F o w o.guard := by
  intro l
  induction l with
  | nil => intro k _ i o h; simp at h
  | cons x l ih =>
   intro k h i o hi
   cases i with
   | zero => simp at hi; subst hi; exact h.1
   | succ i =>
    have := ih (k + 1) h.2 i o (by simpa using hi)
    rw [show k + 1 + i = k + (i + 1) by omega] at this
    exact this
 have h := hat ops.toList 0 hstep i o (by simpa using ho) (by omega) w hS
 have hd : ∀ t, o.dst = some t → t < F.tmps.size := fun t ht => by
  have hck' := hck
  unfold Region.detOk at hck'
  simp only [Bool.and_eq_true] at hck'
  have := List.all_eq_true.1 hck'.1.1.1.2 o (by simpa using Array.mem_of_getElem? ho)
  rw [ht] at this
  rw [hsz]; simpa using this
 have hdst : Region.dstOf ops i = o.dst := by unfold Region.dstOf; rw [ho]; rfl
 have run : o.wp P F w (fun a' w' => a' = F ∧ Below w.heap.size w w') (fun _ _ _ => False) → o.wp P a w (fun a' w' => ∃ v, a' = a.put o.dst v ∧ Region.DetV ops F i v w' ∧ Below w.heap.size w w') Q := fun h => by
  refine Oper.wp_mono (fun a' w' ⟨v, h1, h2, h3⟩ => ⟨v, h1, ?_, h3⟩) (Oper.wp_act (Region.det_eval hck hF0 ho him hA) hd h)
  unfold Region.DetV
  rw [hdst]
  cases hq : o.dst with
  | none => trivial
  | some t => exact h2 t hq
 unfold Region.wanted
 cases hg : o.guard with
 | none =>
  rw [hg] at h
  exact ⟨fun _ => run h, fun h => by cases h⟩
 | some g =>
  obtain ⟨j, want⟩ := g
  rw [hg] at h
  unfold Region.DetStep at h
  simp only at h
  have hl := Region.det_looks hck ho him
  unfold Region.looksOk at hl
  rw [hg, Bool.and_eq_true, Bool.and_eq_true] at hl
  have hl2 := hl.1.1
  simp only [Bool.and_eq_true] at hl2
  obtain ⟨t, ht⟩ := Option.isSome_iff_exists.1 hl2.2
  have hv := hA.got j t (by simpa using hl2.1) ht
  unfold Region.DetV at hv
  rw [ht] at hv h
  simp only [Option.getD_some] at hv h
  have hno : (o.dst.map fun d => F.tmps.getD d undef).getD undef = undef → Region.DetV ops F i undef w := fun h4 => by
   unfold Region.DetV
   rw [hdst]
   cases hq : o.dst with
   | none => trivial
   | some d => rw [hq] at h4; exact h4.symm
  have hyo : yielded ops a.tmps j = match F.tmps.getD t undef with | .bool b => some b | _ => none := by
   unfold yielded
   rw [show (ops[j]?).bind (·.dst) = some t from ht]
   simp only [Option.bind_some]
   rw [← hv, Array.getD_eq_getD_getElem?]
   cases a.tmps[t]? with
   | none => rfl
   | some v => cases v <;> rfl
  simp only [hyo]
  generalize F.tmps.getD t undef = x at h hyo
  clear hyo
  cases x with
  | bool b =>
   by_cases c : b = want
   ·subst c; exact ⟨fun _ => run (h.1 rfl), fun h => by simp at h⟩
   ·exact ⟨fun h => by simp at h; exact absurd h c, fun _ => hno (h.2 c)⟩
  | _ => exact ⟨fun h => by simp at h, fun _ => hno h⟩
theorem Region.det_frame {a0 F a : Act} {m n : Nat} {ks : List Tmp} {w : World} (hn : a0.tmps.size = n) (hsz : F.tmps.size = n) (hdf : F.defers = a0.defers) (hck : Region.detOk ops m ks n = true) (hF0 : ∀ t, t ∉ ks → F.tmps.getD t undef = a0.tmps.getD t undef)
  (hA : Region.At ops (Region.DetV ops F) a0 (fun j => j < ops.size ∧ j ≠ m) a w) : a = F := by
 have hg : ∀ t, a.tmps.getD t undef = F.tmps.getD t undef := fun t => by
  by_cases c : ∃ j, Region.dstOf ops j = some t
  ·obtain ⟨j, hj⟩ := c
   have hjl : j < ops.size := by
    by_cases c : j < ops.size; exact c
    unfold Region.dstOf at hj; rw [Array.getElem?_eq_none (by omega)] at hj; cases hj
   have hjm : j ≠ m := fun e => by
    subst e
    unfold Region.detOk at hck
    simp only [Bool.and_eq_true] at hck
    have := hck.1.1.1.1.2
    unfold Region.dstOf at hj
    cases ho : ops[j]? with
    | none => rw [ho] at hj; cases hj
    | some o => rw [ho] at hj this; simp at hj this; rw [hj] at this; cases this.2
   have h4 := hA.got j t ⟨hjl, hjm⟩ hj
   unfold Region.DetV at h4
   rw [hj] at h4
   exact h4
  ·have hno : ∀ j, Region.dstOf ops j ≠ some t := fun j hj => c ⟨j, hj⟩
   rw [hA.old t hno, hF0 t (fun ht => ?_)]
   unfold Region.detOk at hck
   simp only [Bool.and_eq_true] at hck
   obtain ⟨j, _, h6⟩ := List.any_eq_true.1 (List.all_eq_true.1 hck.2 t ht)
   simp only [Bool.and_eq_true, beq_iff_eq] at h6
   exact hno j h6.2
 have ht : a.tmps = F.tmps := by
  apply Array.ext
  ·rw [hA.size, hn, hsz]
  ·intro i h1 h2
   have := hg i
   rw [Array.getD, dif_pos h1, Array.getD, dif_pos h2] at this
   exact this
 obtain ⟨t, d⟩ := a
 simp only at ht
 have hd := hA.defers
 simp only at hd
 cases F
 simp_all
theorem Region.det_lit {a0 : Act} {n : Nat} (hn : a0.tmps.size = n) (l : List (Tmp × Value)) {F : Act} (hF : { tmps := l.foldl (fun t p => t.setIfInBounds p.1 p.2) a0.tmps, defers := a0.defers } = F) :
  F.tmps.size = n ∧ F.defers = a0.defers ∧ ∀ t, t ∉ l.map (·.1) → F.tmps.getD t undef = a0.tmps.getD t undef := by
 subst hF
 have gen : ∀ (l : List (Tmp × Value)) (arr : Array Value), (l.foldl (fun t p => t.setIfInBounds p.1 p.2) arr).size = arr.size ∧ ∀ t, t ∉ l.map (·.1) → (l.foldl (fun t p => t.setIfInBounds p.1 p.2) arr).getD t undef = arr.getD t undef := by
  intro l
  induction l with
  | nil => intro arr; exact ⟨rfl, fun _ _ => rfl⟩
  | cons p l ih =>
   intro arr
   obtain ⟨h1, h2⟩ := ih (arr.setIfInBounds p.1 p.2)
   refine ⟨by rw [List.foldl_cons, h1]; simp, fun t ht => ?_⟩
   rw [List.map_cons, List.mem_cons, not_or] at ht
   rw [List.foldl_cons, h2 t ht.2]
   simp [Array.getD_eq_getD_getElem?, Array.getElem?_setIfInBounds_ne (Ne.symm ht.1)]
 exact ⟨(gen l a0.tmps).1.trans hn, rfl, (gen l a0.tmps).2⟩
theorem wp_region_det {id : Nat} {a0 : Act} {w0 : World} (hm : P.follows .mixedOrders = true) (n : Nat) (hn : a0.tmps.size = n) (m : Nat) (l : List (Tmp × Value)) {F : Act}
  (hF : { tmps := l.foldl (fun t p => t.setIfInBounds p.1 p.2) a0.tmps, defers := a0.defers } = F) (hck : (Region.detOk ops m (l.map (·.1)) n && Region.lastIs ops m) = true)
  (S : World → Prop) (hG : ∀ w w', S w → Below w.heap.size w w' → S w') (h0 : S w0.drew) (hstep : Region.DetSteps P ops S F m 0 ops.toList)
  (hend : ∀ w, S w → match ops[m]? with | none => Q .normal F w | some o => o.wp P F w (fun a' w' => Q .normal a' w') Q) : (Code.region id ops true).wp P Q a0 w0 := by
 rw [Bool.and_eq_true] at hck
 obtain ⟨hck, hlast⟩ := hck
 obtain ⟨h1, h2, h3⟩ := Region.det_lit hn l hF
 have hck' := hck
 unfold Region.detOk at hck'
 simp only [Bool.and_eq_true] at hck'
 obtain ⟨⟨⟨⟨⟨hb, hb2⟩, hok⟩, hap⟩, -⟩, -⟩ := hck'
 refine wp_region_vals hm m (Region.DetV ops F) S (fun w w' => Below w.heap.size w w') (fun w => Below.refl _ _) (fun w w' hS hB => ⟨hG w w' hS hB, fun _ _ h => h⟩) hb ?_ (hn ▸ hok) hap hlast h0 (fun i o ho him a w hS hA => Region.det_step hck h1 h3 hstep ho him hS hA) fun a w hS hA => ?_
 ·unfold Region.bareAt
  cases ho : ops[m]? with
  | none => rfl
  | some o => rw [ho] at hb2; simp at hb2; simp [hb2.1]
 ·have := Region.det_frame hn h1 h2 hck h3 hA
  subst this
  exact hend w hS
end
end Go
