import Derived.Deep.MidRow
import Derived.Deep.Upon
import Derived.Test.YtcjdideliifkhaaGreatDoorB10
import Derived.Test.YtcjdideliifkhaaGreatDoorB04
set_option maxRecDepth 100000
set_option maxHeartbeats 16000000
namespace Go.Proofs.YtcjdideliifkhaaGreatDoor
open Go.RowKit
set_option linter.unusedVariables false
set_option linter.unusedSimpArgs false
structure CSet where
 star : Bool
 has : Nat → Bool
def CSet.cells (s : CSet) : List Value := .bool s.star :: (List.range 63).map (fun i => .bool (s.has i))
theorem CSet.cells_len (s : CSet) : s.cells.length = 64 := by simp [CSet.cells]
theorem CSet.cells_has (s : CSet) (i : Nat) (h : i < 63) : s.cells[1 + i]? = some (.bool (s.has i)) := by
 rw [Nat.add_comm]; simp [CSet.cells, h]
abbrev CF := Nat → CSet
def fcells (F : CF) : List Value := [F 0, F 1, F 2, F 3, F 4, F 5].flatMap CSet.cells
theorem flat_at : ∀ (l : List CSet) (k j : Nat), j < 64 → (l.flatMap CSet.cells)[64 * k + j]? = (l[k]?).bind fun s => s.cells[j]? := by
 intro l
 induction l with
 | nil => intro k j hj; simp
 | cons s l ih =>
  intro k j hj
  rw [List.flatMap_cons]
  cases k with
  | zero => rw [List.getElem?_append_left (by rw [CSet.cells_len]; omega)]; simp
  | succ k =>
   rw [List.getElem?_append_right (by rw [CSet.cells_len]; omega), CSet.cells_len, show 64 * (k + 1) + j - 64 = 64 * k + j by omega, ih k j hj]
   simp
theorem flat_len : ∀ (l : List CSet), (l.flatMap CSet.cells).length = 64 * l.length := by
 intro l
 induction l with
 | nil => rfl
 | cons s l ih => rw [List.flatMap_cons, List.length_append, CSet.cells_len, ih, List.length_cons]; omega
theorem fcells_len (F : CF) : (fcells F).length = 384 := flat_len _
theorem fcells_at (F : CF) (k j : Nat) (hk : k < 6) (hj : j < 64) : (fcells F)[64 * k + j]? = (F k).cells[j]? := by
 unfold fcells
 rw [flat_at _ _ _ hj]
 have : k = 0 ∨ k = 1 ∨ k = 2 ∨ k = 3 ∨ k = 4 ∨ k = 5 := by omega
 rcases this with rfl | rfl | rfl | rfl | rfl | rfl <;> rfl
structure FAt (w : World) (b o : Nat) (F : CF) : Prop where
 size : b < w.heap.size
 star : ∀ k, k < 6 → w.cell? ⟨b, o + 64 * k, none⟩ = some (.bool (F k).star)
 has : ∀ k i, k < 6 → i < 63 → w.cell? ⟨b, o + (64 * k + 1 + i), none⟩ = some (.bool ((F k).has i))
theorem FAt.of_range {w : World} {b o : Nat} {F : CF} (hb : b < w.heap.size) (h : w.rangeAt b o (fcells F)) : FAt w b o F :=
 ⟨hb, fun k hk => h (64 * k) _ (by rw [← Nat.add_zero (64 * k), fcells_at F k 0 hk (by decide)]; rfl),
  fun k i hk hi => h _ _ (by rw [Nat.add_assoc, fcells_at F k (1 + i) hk (by omega)]; exact CSet.cells_has _ _ hi)⟩
theorem FAt.range {w : World} {b o : Nat} {F : CF} (h : FAt w b o F) : w.rangeAt b o (fcells F) := by
 intro j v hv
 have hj : j < 384 := by
  by_cases c : j < 384; exact c
  rw [List.getElem?_eq_none (by rw [fcells_len]; omega)] at hv; cases hv
 have e : j = 64 * (j / 64) + j % 64 := by omega
 rw [e, fcells_at F _ _ (by omega) (by omega)] at hv
 by_cases c : j % 64 = 0
 ·rw [c] at hv; cases hv
  have := h.star (j / 64) (by omega)
  rwa [show 64 * (j / 64) = j by omega] at this
 ·rw [show j % 64 = 1 + (j % 64 - 1) by omega, CSet.cells_has _ _ (by omega)] at hv; cases hv
  have := h.has (j / 64) (j % 64 - 1) (by omega) (by omega)
  rwa [show 64 * (j / 64) + 1 + (j % 64 - 1) = j by omega] at this
theorem FAt.below {w w' : World} {b o : Nat} {F : CF} (h : FAt w b o F) (hb : Below w.heap.size w w') : FAt w' b o F :=
 ⟨Nat.lt_of_lt_of_le h.1 hb.size, fun k hk => (hb.cell (p := ⟨b, _, none⟩) h.1).trans (h.star k hk), fun k i hk hi => (hb.cell (p := ⟨b, _, none⟩) h.1).trans (h.has k i hk hi)⟩
theorem FAt.boxed (w : World) (F : CF) (T : TypeId) : FAt (w.alloc (.cells (fcells F).toArray T)) w.heap.size 0 F :=
 FAt.of_range (by simp) fun j v hv => by
  rw [Nat.zero_add]
  simp [go_sem, hv]
abbrev fval (F : CF) : Value := .agg (fcells F).toArray
def tFits (F : CF) (t : Nat) : Bool := (F 2).has (t / 3600) && (F 1).has (t % 3600 / 60) && (F 0).has (t % 60)
def QuietT (F : CF) (a b : Nat) : Prop := ∀ t, a ≤ t → t < b → tFits F t = false
def TimeAns (F : CF) (n : Nat) : Option Nat → Prop
 | none => QuietT F n 86400
 | some t => n ≤ t ∧ t < 86400 ∧ tFits F t = true ∧ QuietT F n t
def optInt : Option Nat → Int
 | none => -1
 | some t => (t : Int)
def TimeQ (F : CF) (n : Nat) (w : World) (e : Ending) (w' : World) : Prop := (∃ r, TimeAns F n r ∧ e = .returned (.int .i64 (optInt r))) ∧ Below w.heap.size w w'
theorem time_t (F : CF) (n : Nat) (h1 : n < 86400) (w : World) :
  Calls Tryz.prog 107 #[fval F, .int .i64 (n : Int)] w (TimeQ F n w) := by
 go_enter Tryz.func107, Tryz.ntmps107
 go_wp2
 have hF := FAt.boxed w F 38
 have hB : Below w.heap.size w (w.alloc (Obj.cells (fcells F).toArray 38)) := (Below.refl _ _).alloc (Nat.le_refl _) _
 generalize w.alloc (Obj.cells (fcells F).toArray 38) = W at *
 go_loop [5] (fun h => ∃ k : Nat, n / 3600 ≤ k ∧ k ≤ 24 ∧ h = .int .i64 (k : Int) ∧ QuietT F n (3600 * k)) (fun h => 24 - (intOf h).toNat)
 case atStart => exact ⟨n / 3600, Nat.le_refl _, by omega, by simp, fun t a b => by omega⟩
 case round =>
  obtain ⟨k, hk0, hk1, rfl, hq⟩ := hrel
  by_cases hk : k < 24
  ·have hc : W.cell? ⟨w.heap.size, 129 + k, none⟩ = some (.bool ((F 2).has k)) := by have := hF.has 2 k (by decide) (by omega); simpa using this
   cases hh : (F 2).has k with
   | false =>
    rw [hh] at hc
    have hq2 : QuietT F n (3600 * (k + 1)) := fun t a b => by
     by_cases c : t < 3600 * k
     ·exact hq t a c
     ·unfold tFits; rw [show t / 3600 = k by omega, hh]; rfl
    have HQ := Lib.hid hq2
    clear hq hq2 hh
    go_wp2
    go_round
    case rel => exact ⟨k + 1, by omega, by omega, by go_num, HQ.out⟩
    case measure => simp [intOf]; omega
   | true =>
    rw [hh] at hc
    have HQ := Lib.hid hq
    have Hh := Lib.hid hh
    clear hq hh
    go_wp2
    go_loop [21] (fun v => ∃ m : Nat, m ≤ 60 ∧ v = .int .i64 (m : Int) ∧ QuietT F n (3600 * k + 60 * m)) (fun v => 60 - (intOf v).toNat)
    case atStart => exact ⟨0, by omega, rfl, HQ.out⟩
    case round =>
     obtain ⟨m, hm1, rfl, hq⟩ := hrel
     clear HQ
     by_cases hm : m < 60
     ·have hcm : W.cell? ⟨w.heap.size, 65 + m, none⟩ = some (.bool ((F 1).has m)) := by have := hF.has 1 m (by decide) (by omega); simpa using this
      have hnext : (∀ t, n ≤ t → 3600 * k + 60 * m ≤ t → t < 3600 * k + 60 * (m + 1) → tFits F t = false) → QuietT F n (3600 * k + 60 * (m + 1)) := fun h t a b => by
       by_cases c : t < 3600 * k + 60 * m
       ·exact hq t a c
       ·exact h t a (by omega) b
      cases hhm : (F 1).has m with
      | false =>
       rw [hhm] at hcm
       have HQ := Lib.hid (hnext fun t a b c => by unfold tFits; rw [show t % 3600 / 60 = m by omega, hhm]; simp)
       clear hq hnext hhm
       go_wp2
       go_round
       case rel => exact ⟨m + 1, by omega, by go_num, HQ.out⟩
       case measure => simp [intOf]; omega
      | true =>
       rw [hhm] at hcm
       have Hn := Lib.hid hnext
       have Hq := Lib.hid hq
       have Hm := Lib.hid hhm
       clear hq hnext hhm
       by_cases hp : 3600 * k + 60 * m + 59 < n
       ·go_wp2
        go_round
        case rel => exact ⟨m + 1, by omega, by go_num, Hn.out fun t a b c => by omega⟩
        case measure => simp [intOf]; omega
       ·go_wp2
        all_goals
         go_loop [8] (fun v => ∃ s : Nat, s ≤ 60 ∧ v = .int .i64 (s : Int) ∧ n ≤ 3600 * k + 60 * m + s ∧ QuietT F n (3600 * k + 60 * m + s)) (fun v => 60 - (intOf v).toNat)
         case atStart =>
          first
           | exact ⟨n - (3600 * k + 60 * m), by omega, congrArg (Value.int .i64) (by omega), by omega, fun t a b => by omega⟩
           | exact ⟨0, by omega, rfl, by omega, Hq.out⟩
         case round =>
          obtain ⟨s, hs1, rfl, hns, hq⟩ := hrel
          by_cases hs : s < 60
          ·have hcs : W.cell? ⟨w.heap.size, 1 + s, none⟩ = some (.bool ((F 0).has s)) := by have := hF.has 0 s (by decide) (by omega); simpa using this
           cases hhs : (F 0).has s with
           | false =>
            rw [hhs] at hcs
            have HQ := Lib.hid (show QuietT F n (3600 * k + 60 * m + (s + 1)) from fun t a b => by
             by_cases c : t < 3600 * k + 60 * m + s
             ·exact hq t a c
             ·unfold tFits; rw [show t % 60 = s by omega, hhs]; simp)
            clear hq hhs
            go_wp2
            go_round
            case rel => exact ⟨s + 1, by omega, by go_num, by omega, HQ.out⟩
            case measure => simp [intOf]; omega
           | true =>
            rw [hhs] at hcs
            have HQ := Lib.hid (show TimeQ F n w (.returned (.int .i64 (3600 * (k : Int) + 60 * (m : Int) + (s : Int)))) W from
             ⟨⟨some (3600 * k + 60 * m + s), ⟨hns, by omega, by unfold tFits; rw [show (3600 * k + 60 * m + s) / 3600 = k by omega, show (3600 * k + 60 * m + s) % 3600 / 60 = m by omega, show (3600 * k + 60 * m + s) % 60 = s by omega, Hh.out, Hm.out, hhs]; rfl, hq⟩, by simp [optInt]⟩, hB⟩)
            clear hq hhs
            go_wp2
            go_ret
            exact HQ.out
          ·have HQ := Lib.hid (show QuietT F n (3600 * k + 60 * (m + 1)) from fun t a b => hq t a (by omega))
           clear hq
           go_wp2
           go_round
           case rel => exact ⟨m + 1, by omega, by go_num, HQ.out⟩
           case measure => simp [intOf]; omega
     ·have HQ := Lib.hid (show QuietT F n (3600 * (k + 1)) from fun t a b => hq t a (by omega))
      clear hq
      go_wp2
      go_round
      case rel => exact ⟨k + 1, by omega, by omega, by go_num, HQ.out⟩
      case measure => simp [intOf]; omega
  ·have HQ := Lib.hid (show TimeQ F n w (.returned (.int .i64 (-1))) W from ⟨⟨none, fun t a b => hq t a (by omega), rfl⟩, hB⟩)
   clear hq
   go_wp2
   go_ret
   exact HQ.out
def bvals (n : Nat) (f : Nat → Bool) : List Value := (List.range n).map (fun i => .bool (f i))
theorem bvals_at (n : Nat) (f : Nat → Bool) (i : Nat) (h : i < n) : (bvals n f)[i]? = some (.bool (f i)) := by simp [bvals, h]
theorem bvals_len (n : Nat) (f : Nat → Bool) : (bvals n f).length = n := by simp [bvals]
theorem equal_bools (f g : Nat → Bool) (w : World) :
  (Op.equal 34 (.agg (bvals 63 f).toArray) (.agg (bvals 63 g).toArray)).run Tryz.prog w = .ok ((List.range 63).all fun i => f i == g i) w := by
 have hu : Tryz.prog.underlying 34 = some (.array 63 4) := by kernel_rfl
 unfold Op.equal
 rw [show Op.maxDepth = 9999 + 1 from rfl]
 unfold Op.equalIn
 rw [Sem.run_bind, run_underlying hu w]
 simp only [Result.andThen]
 have hs : ∀ w, (sizeOf 4).run Tryz.prog w = .ok 1 w := fun w => by kernel_rfl
 rw [Sem.run_bind, hs]
 simp only [Result.andThen]
 have hp : ∀ (h : Nat → Bool) (i : Nat), i < 63 → ∀ w, (part 4 (bvals 63 h).toArray (i * 1)).run Tryz.prog w = .ok (.bool (h i)) w := by
  intro h i hi w
  have hA : ∀ w, (isAgg 4).run Tryz.prog w = .ok false w := fun w => by kernel_rfl
  unfold part
  rw [Sem.run_bind, hA]
  simp only [Result.andThen, Bool.false_eq_true, if_false, Nat.mul_one, List.getElem?_toArray]
  rw [bvals_at 63 h i hi]
  rfl
 have he : ∀ (a b : Bool) w, (Op.equalIn 9999 4 (.bool a) (.bool b)).run Tryz.prog w = .ok (a == b) w := by
  intro a b w
  have hu4 : Tryz.prog.underlying 4 = some .bool := by kernel_rfl
  rw [show (9999 : Nat) = 9998 + 1 from rfl]
  unfold Op.equalIn
  rw [Sem.run_bind, run_underlying hu4 w]
  rfl
 have key : ∀ (m k : Nat), k + m = 63 → ∀ w, (forIn (List.range' k m) ((none : Option Bool), ()) fun i __s => do
       let __do_lift ← part 4 (bvals 63 f).toArray (i * 1)
       let __do_lift_1 ← part 4 (bvals 63 g).toArray (i * 1)
       let __do_lift ← Op.equalIn 9999 4 __do_lift __do_lift_1
       if (!__do_lift) = true then pure (ForInStep.done (some false, ())) else pure (ForInStep.yield (none, ()))).run Tryz.prog w = .ok (if (List.range' k m).all fun i => f i == g i then (none, ()) else (some false, ())) w := by
  intro m
  induction m with
  | zero => intro k _ w; simp [Sem.run_pure]
  | succ m ih =>
   intro k hk w
   rw [List.range'_succ, List.forIn_cons]
   rw [Sem.run_bind, Sem.run_bind, hp f k (by omega)]
   simp only [Result.andThen]
   rw [Sem.run_bind, hp g k (by omega)]
   simp only [Result.andThen]
   rw [Sem.run_bind, he]
   simp only [Result.andThen]
   cases hfg : f k == g k with
   | true =>
    simp only [Bool.not_true, Bool.false_eq_true, if_false, Sem.run_pure]
    rw [ih (k + 1) (by omega), List.all_cons, hfg, Bool.true_and]
   | false =>
    simp only [Bool.not_false, if_true, Sem.run_pure]
    rw [List.all_cons, hfg]
    simp [Sem.run_pure]
 rw [Sem.run_bind]
 have hr := key 63 0 rfl w
 simp only [Std.Legacy.Range.forIn_eq_forIn_range', Std.Legacy.Range.size]
 rw [show (63 - 0 + 1 - 1) / 1 = 63 from rfl, hr, ← List.range_eq_range']
 simp only [Result.andThen]
 cases (List.range 63).all fun i => f i == g i <;> rfl
theorem wpList_exec {P : Program} {ops : Array Oper} {rest : List Oper} {op : Oper} {a : Act} {w : World} {Q : Exit → Act → World → Prop} (o' : Op) (ho : op.op = o') (hgd : op.guard = none) (v : Value)
  (hx : (execOp a.eval op).run P w = .ok (.value v) w) (h : wpList P ops Q rest (a.put op.dst v) w) : wpList P ops Q (op :: rest) a w :=
 wpList_plain hgd fun _ hK => by unfold Oper.wp; rw [hx]; exact hK _ _ h
theorem exec_eql34 (ρ : Operand → Value) (op : Oper) (x y : Operand) (R : TypeId) (ho : op.op = .binOp .eql 34 x y R) (f g : Nat → Bool) (hx : ρ x = .agg (bvals 63 f).toArray) (hy : ρ y = .agg (bvals 63 g).toArray) (w : World) :
  (execOp ρ op).run Tryz.prog w = .ok (.value (.bool ((List.range 63).all fun i => f i == g i))) w := by
 have hg : (Tryz.prog.eqGuardType Tryz.prog.depth 34) = false := by kernel_rfl
 have hgd : ∀ cs ds, (eqGuard .eql 34 x y (.agg cs) (.agg ds)).run Tryz.prog w = .ok () w := by
  intro cs ds
  unfold eqGuard
  have hpr : Sem.run Tryz.prog (Sem.program Sem.pure) w = Result.ok Tryz.prog w := rfl
  simp [Sem.run_bind, program, go_sem, hpr, hg]
 unfold execOp
 rw [ho]
 simp only [hx, hy]
 rw [Sem.run_bind, Sem.run_bind, hgd]
 simp only [Result.andThen]
 have : (binOp .eql 34 (.agg (bvals 63 f).toArray) (.agg (bvals 63 g).toArray)) = (do pure (.bool (← Op.equal 34 (.agg (bvals 63 f).toArray) (.agg (bvals 63 g).toArray)))) := rfl
 rw [this, Sem.run_bind, equal_bools]
 rfl
def CSet.empty (s : CSet) : Bool := (List.range 63).all fun i => s.has i == false
theorem CSet.range_has {w : World} {b o : Nat} {s : CSet} (h : w.rangeAt b o s.cells) : w.rangeAt b (o + 1) (bvals 63 s.has) := by
 intro j v hv
 have hj : j < 63 := by
  by_cases c : j < 63; exact c
  rw [List.getElem?_eq_none (by rw [bvals_len]; omega)] at hv; cases hv
 rw [bvals_at 63 _ j hj] at hv; cases hv
 have := h (1 + j) _ (CSet.cells_has s j hj)
 rwa [show o + (1 + j) = o + 1 + j by omega] at this
def zeros64 : Array Value := (bvals 64 (fun _ => false)).toArray
theorem empty_c (s : CSet) (w : World) :
  Calls Tryz.prog 129 #[.agg s.cells.toArray] w fun e w' => e = .returned (.bool s.empty) ∧ Below w.heap.size w w' := by
 go_enter Tryz.func129, Tryz.ntmps129
 go_upto_region 1 with (fail)
 have hr : (w.alloc (Obj.cells s.cells.toArray 36)).rangeAt w.heap.size 0 s.cells := fun j v hv => by rw [Nat.zero_add]; simp [go_sem, hv]
 have hB : Below w.heap.size w (w.alloc (Obj.cells s.cells.toArray 36)) := (Below.refl _ _).alloc (Nat.le_refl _) _
 have hld := CSet.range_has hr
 generalize w.alloc (Obj.cells s.cells.toArray 36) = W at *
 clear hr
 go_wp2_with (first
  | (refine wpList_load_mid rfl 34 _ rfl w.heap.size 1 rfl (bvals 63 s.has) (.array 63 4) hld (by kernel_rfl) rfl (by rw [bvals_len]; kernel_rfl) ?_)
  | (refine wpList_exec (.build 36 #[]) rfl rfl (.agg zeros64) (by kernel_rfl) ?_)
  | (refine wpList_exec (.field 36 (.tmp 5) 1) rfl rfl (.agg (bvals 63 (fun _ => false)).toArray) (by kernel_rfl) ?_)
  | (refine wpList_exec (.binOp .eql 34 (.tmp 4) (.tmp 6) 34) rfl rfl (.bool s.empty) (exec_eql34 _ _ _ _ _ rfl _ _ rfl rfl _) ?_))
 go_ret
 exact ⟨rfl, hB⟩
theorem FAt.set {w : World} {b o : Nat} {F : CF} (h : FAt w b o F) (k : Nat) (hk : k < 6) : w.rangeAt b (o + 64 * k) (F k).cells := by
 intro j v hv
 have hj : j < 64 := by
  by_cases c : j < 64; exact c
  rw [List.getElem?_eq_none (by rw [CSet.cells_len]; omega)] at hv; cases hv
 have := h.range (64 * k + j) v (by rw [fcells_at F k j hk hj]; exact hv)
 rwa [show o + (64 * k + j) = o + 64 * k + j by omega] at this
theorem wpList_load_g {P : Program} {ops : Array Oper} {rest : List Oper} {op : Oper} {a : Act} {w : World} {Q : Exit → Act → World → Prop} (hw : Region.wanted op (yielded ops a.tmps) = true) (ty : TypeId) (x : Operand) (ho : op.op = .load ty x)
  (b o : Nat) (hx : a.eval x = .pointer (some ⟨b, o, none⟩)) (cs : List Value) (d : TypeDesc) (hc : w.rangeAt b o cs)
  (hu : P.underlying ty = some d) (hd : d.isRow = true) (hi : (P.info? ty).map (·.size) = some cs.length)
  (h : wpList P ops Q rest (a.put op.dst (.agg cs.toArray)) w) : wpList P ops Q (op :: rest) a w := by
 unfold wpList
 rw [if_pos hw]
 exact .inl (wp_load_mid ty x ho b o hx cs d hc hu hd hi h)
def neverB (F : CF) : Bool := (F 2).empty || (F 1).empty || (F 0).empty
theorem never_c (F : CF) (w : World) :
  Calls Tryz.prog 103 #[fval F] w fun e w' => e = .returned (.bool (neverB F)) ∧ Below w.heap.size w w' := by
 have hE := fun k w => empty_c (F k) w
 unfold neverB
 cases e2 : (F 2).empty <;> cases e1 : (F 1).empty <;> cases e0 : (F 0).empty
 all_goals
  have hE2 := hE 2
  have hE1 := hE 1
  have hE0 := hE 0
  rw [e2] at hE2
  rw [e1] at hE1
  rw [e0] at hE0
  have H2 := Lib.hid hE2
  have H1 := Lib.hid hE1
  have H0 := Lib.hid hE0
  clear hE hE2 hE1 hE0 e2 e1 e0
  go_enter Tryz.func103, Tryz.ntmps103
  go_upto_region 1 with (fail)
  have hF := FAt.boxed w F 38
  have hB : Below w.heap.size w (w.alloc (Obj.cells (fcells F).toArray 38)) := (Below.refl _ _).alloc (Nat.le_refl _) _
  generalize w.alloc (Obj.cells (fcells F).toArray 38) = W at *
  go_wp2_with (first
   | (refine wpList_load_mid rfl 36 (.tmp 3) rfl w.heap.size 128 rfl (F 2).cells _ (by simpa using hF.set 2 (by decide)) Tryz.underlying36 rfl (by rw [CSet.cells_len]; kernel_rfl) ?_)
   | (refine wpList_load_g rfl 36 (.tmp 7) rfl w.heap.size 64 rfl (F 1).cells _ (by simpa using hF.set 1 (by decide)) Tryz.underlying36 rfl (by rw [CSet.cells_len]; kernel_rfl) ?_)
   | (refine wpList_load_g rfl 36 (.tmp 12) rfl w.heap.size 0 rfl (F 0).cells _ (by simpa using hF.set 0 (by decide)) Tryz.underlying36 rfl (by rw [CSet.cells_len]; kernel_rfl) ?_)
   | (go_at_call 129; (first | (with_reducible refine (H2.out _).mono ?_) | (with_reducible refine (H1.out _).mono ?_) | (with_reducible refine (H0.out _).mono ?_)); rintro e w1 ⟨rfl, hb⟩; replace hF := hF.below hb; replace hB := hB.trans (hb.mono hB.size)))
  go_ret
  exact ⟨rfl, hB⟩
def dayF (F : CF) (d wd : Nat) : Bool := if (F 3).star || (F 5).star then (F 3).has d && (F 5).has wd else (F 3).has d || (F 5).has wd
theorem dayFits_c (F : CF) (y m : Int) (d wd : Nat) (hd : d < 63) (hw : wd < 63) (w : World) :
  Calls Tryz.prog 105 #[fval F, .agg #[.int .i64 y, .int .i64 m, .int .i64 (d : Int)], .int .i64 (wd : Int)] w fun e w' => e = .returned (.bool (dayF F d wd)) ∧ Below w.heap.size w w' := by
 go_enter Tryz.func105, Tryz.ntmps105
 go_upto_region 1 with (fail)
 have hF0 := FAt.boxed w F 38
 have hF : FAt ((w.alloc (Obj.cells (fcells F).toArray 38)).alloc (Obj.cells #[.int .i64 y, .int .i64 m, .int .i64 (d : Int)] 135)) w.heap.size 0 F := hF0.below ((Below.refl _ _).alloc (Nat.le_refl _) _)
 have hB : Below w.heap.size w ((w.alloc (Obj.cells (fcells F).toArray 38)).alloc (Obj.cells #[.int .i64 y, .int .i64 m, .int .i64 (d : Int)] 135)) := ((Below.refl _ _).alloc (Nat.le_refl _) _).alloc (by simp) _
 have hc : ((w.alloc (Obj.cells (fcells F).toArray 38)).alloc (Obj.cells #[.int .i64 y, .int .i64 m, .int .i64 (d : Int)] 135)).cell? ⟨w.heap.size + 1, 2, none⟩ = some (.int .i64 (d : Int)) := by simp [go_sem]
 generalize (w.alloc (Obj.cells (fcells F).toArray 38)).alloc (Obj.cells #[.int .i64 y, .int .i64 m, .int .i64 (d : Int)] 135) = W at *
 have h3 : W.cell? ⟨w.heap.size, 193 + d, none⟩ = some (.bool ((F 3).has d)) := by have := hF.has 3 d (by decide) hd; simpa using this
 have h5 : W.cell? ⟨w.heap.size, 321 + wd, none⟩ = some (.bool ((F 5).has wd)) := by have := hF.has 5 wd (by decide) hw; simpa using this
 have s3 : W.cell? ⟨w.heap.size, 192, none⟩ = some (.bool (F 3).star) := by have := hF.star 3 (by decide); simpa using this
 have s5 : W.cell? ⟨w.heap.size, 320, none⟩ = some (.bool (F 5).star) := by have := hF.star 5 (by decide); simpa using this
 clear hF hF0
 have i0 : (0 : Int) ≤ (d : Int) := by omega
 have i1 : (d : Int) < 63 := by omega
 have i2 : (0 : Int) ≤ (wd : Int) := by omega
 have i3 : (wd : Int) < 63 := by omega
 go_quiet (fail)
 rename_i nq
 have hBq : Below w.heap.size w (W.drewN nq) := by
  have : ∀ n, Below w.heap.size w (W.drewN n) := by
   intro n
   induction n with
   | zero => exact hB
   | succ n ih => exact ih.drew
  exact this nq
 have dc : ∀ n (p : Addr), (W.drewN n).cell? p = W.cell? p := by
  intro n
  induction n with
  | zero => intro p; rfl
  | succ n ih => intro p; rw [← ih p]; rfl
 rw [← dc nq] at s3 s5
 clear h3 h5 hc dc
 cases e3 : (F 3).star <;> cases e5 : (F 5).star <;> cases d3 : (F 3).has d
 all_goals
  rw [e3] at s3
  rw [e5] at s5
  go_wp2
  go_ret
  exact ⟨by simp [dayF, e3, e5, d3], hBq⟩
open Go.RowKit Go.Proofs.YtcjdideliifkhaaGreatDoorW.PrintWords Go.Proofs.YtcjdideliifkhaaGreatDoorW.PrintLast Go.Proofs.YtcjdideliifkhaaGreatDoorW.PrintMore PFnCronTextAfterAnywhere
abbrev Txt := List UInt8
def ofL (l : Txt) : ByteArray := ⟨l.toArray⟩
def toL (s : ByteArray) : Txt := s.data.toList
theorem toL_ofL (l : Txt) : toL (ofL l) = l := rfl
theorem ofL_toL (s : ByteArray) : ofL (toL s) = s := rfl
theorem toL_len (s : ByteArray) : (toL s).length = s.size := rfl
theorem toList_toL (s : ByteArray) : s.toList = toL s := ByteArray.toList_eq s
theorem ofL_size (l : Txt) : (ofL l).size = l.length := rfl
theorem wr1 {n : Nat} {i : Int} (h0 : 0 ≤ i) (h : i < (n : Int)) (hn : n ≤ 4294967296) : wrap64 (i + 1) = i + 1 := by unfold wrap64; omega
theorem bt_nat (s : ByteArray) (i : Nat) (h : i < s.size) : bt s (i : Int) = ((toL s)[i]'(by rw [toL_len]; exact h)).toNat := by
 unfold bt
 rw [dif_pos (by simpa using h)]
 rfl
theorem extract_ofL (s : ByteArray) (a b : Nat) : s.extract a b = ofL (((toL s).take b).drop a) := by
 apply ByteArray.ext
 rw [ByteArray.data_extract]
 unfold ofL toL
 apply Array.ext'
 simp [List.drop_take]
def pieces (c : UInt8) (pre : Txt) : Txt → List Txt
 | [] => [pre]
 | x :: xs => if x = c then pre :: pieces c [] xs else pieces c (pre ++ [x]) xs
theorem pieces_ne (c : UInt8) : ∀ (l pre : Txt), pieces c pre l ≠ [] := by
 intro l
 induction l with
 | nil => intro pre; simp [pieces]
 | cons x l ih => intro pre; unfold pieces; split <;> simp [ih]
theorem pieces_len (c : UInt8) : ∀ (l pre : Txt), (pieces c pre l).length ≤ l.length + 1 := by
 intro l
 induction l with
 | nil => intro pre; simp [pieces]
 | cons x l ih =>
  intro pre; unfold pieces; split
  ·have := ih []; simp; omega
  ·have := ih (pre ++ [x]); simp; omega
def dig (c : UInt8) : Bool := 48 ≤ c.toNat && c.toNat ≤ 57
def dval (n : Nat) (c : UInt8) : Nat := 10 * n + (c.toNat - 48)
def val (l : Txt) : Nat := l.foldl dval 0
def Digits (l : Txt) : Prop := l ≠ [] ∧ ∀ c ∈ l, dig c = true
theorem val_mono (l : Txt) : ∀ n, n ≤ l.foldl dval n := by
 induction l with
 | nil => intro n; exact Nat.le_refl _
 | cons c l ih => intro n; have := ih (dval n c); simp only [List.foldl_cons]; unfold dval at *; omega
theorem digit_f (c : UInt8) : spec_isDigit.f (c.toNat : Int) = some (dig c) := by
 unfold spec_isDigit.f dig
 by_cases h : 48 ≤ c.toNat
 ·rw [if_pos (by omega)]
  by_cases h2 : c.toNat ≤ 57
  ·rw [decide_eq_true (show (c.toNat : Int) ≤ 57 by omega), decide_eq_true h2, decide_eq_true h]; rfl
  ·rw [decide_eq_false (show ¬ (c.toNat : Int) ≤ 57 by omega), decide_eq_false h2]; simp
 ·rw [if_neg (by omega), decide_eq_false h]; rfl
def up (c : UInt8) : UInt8 := if 97 ≤ c.toNat ∧ c.toNat ≤ 122 then c - 32 else c
theorem up_nat (c : UInt8) : ((up c).toNat : Int) = if 97 ≤ c.toNat ∧ c.toNat ≤ 122 then (c.toNat : Int) - 32 else c.toNat := by
 unfold up
 split
 ·rename_i h
  rw [UInt8.toNat_sub_of_le]
  ·simp; omega
  ·rw [UInt8.le_iff_toNat_le]; simp; omega
 ·rfl
theorem upper_f (c : UInt8) : spec_cronUpper.f (c.toNat : Int) = some ((up c).toNat : Int) := by
 unfold spec_cronUpper.f
 rw [up_nat]
 by_cases h : 97 ≤ c.toNat
 ·rw [if_pos (by omega)]
  by_cases h2 : c.toNat ≤ 122
  ·rw [if_pos (by omega), if_pos ⟨h, h2⟩]; congr 1; omega
  ·rw [if_neg (by omega), if_neg (by omega)]
 ·rw [if_neg (by omega), if_neg (by omega)]
def sameL : Txt → Txt → Bool
 | [], [] => true
 | x :: a, y :: b => if up x = up y then sameL a b else false
 | _, _ => false
theorem sameL_cons (x y : UInt8) (a b : Txt) : sameL (x :: a) (y :: b) = if up x = up y then sameL a b else false := rfl
theorem sameL_iff : ∀ a b : Txt, sameL a b = true ↔ a.map up = b.map up := by
 intro a
 induction a with
 | nil => intro b; cases b <;> simp [sameL]
 | cons x a ih =>
  intro b
  cases b with
  | nil => simp [sameL]
  | cons y b =>
   rw [sameL_cons, List.map_cons, List.map_cons]
   by_cases c : up x = up y
   ·rw [if_pos c, ih, c]; simp
   ·rw [if_neg c]; simp [c]
theorem sameL_len : ∀ a b : Txt, sameL a b = true → a.length = b.length := by
 intro a b h
 have := congrArg List.length ((sameL_iff a b).1 h)
 simpa using this
def names (kind : Int) : Txt := if kind = 4 then [46, 46, 46, 74, 65, 78, 70, 69, 66, 77, 65, 82, 65, 80, 82, 77, 65, 89, 74, 85, 78, 74, 85, 76, 65, 85, 71, 83, 69, 80, 79, 67, 84, 78, 79, 86, 68, 69, 67] else [83, 85, 78, 77, 79, 78, 84, 85, 69, 87, 69, 68, 84, 72, 85, 70, 82, 73, 83, 65, 84]
def nameL (kind : Int) (v : Nat) : Txt := ((names kind).take (3 * v + 3)).drop (3 * v)
def low (kind : Int) : Int := if kind = 3 then 1 else if kind = 4 then 1 else 0
def high (kind : Int) : Int := if kind = 2 then 23 else if kind = 3 then 31 else if kind = 4 then 12 else if kind = 5 then 6 else 59
theorem low_f (kind : Int) : spec_CronLow.f kind = some (low kind) := by
 unfold spec_CronLow.f low
 split
 ·rfl
 ·split <;> rfl
theorem high_f (kind : Int) : spec_CronHigh.f kind = some (high kind) := by
 unfold spec_CronHigh.f high
 split
 ·rfl
 ·split
  ·rfl
  ·split
   ·rfl
   ·split <;> rfl
def Named (kind : Int) (l : Txt) (v : Nat) : Prop := (kind = 4 ∨ kind = 5) ∧ low kind ≤ v ∧ (v : Int) ≤ high kind ∧ sameL (nameL kind v) l = true
def ValR (kind : Int) (l : Txt) (n : Int) : Prop := (∃ v : Nat, n = v ∧ Named kind l v) ∨ ((∀ v, ¬ Named kind l v) ∧ Digits l ∧ n = (min (val l) 1099511627776 : Nat))
theorem foreign_l (s : ByteArray) (hs : s.size ≤ 4294967296) : ∀ (d i : Nat), i + d = s.size →
  Ev (fun k => spec_cronForeign.l0 k s (s.size : Int) (i : Int)) (((toL s).drop i).any fun c => 128 ≤ c.toNat) := by
 intro d
 induction d with
 | zero =>
  intro i hi
  rw [show (toL s).drop i = [] from List.drop_eq_nil_of_le (by rw [toL_len]; omega)]
  refine Ev.step (f := fun _ => some false) (fun k => ?_) (Ev.now _)
  simp only [spec_cronForeign.l0]
  rw [if_neg (by omega)]
 | succ d ih =>
  intro i hi
  have hlt : i < s.size := by omega
  have hls : i < (toL s).length := by rw [toL_len]; exact hlt
  have hb := bt_nat s i hlt
  have hds : (toL s).drop i = (toL s)[i] :: (toL s).drop (i + 1) := List.drop_eq_getElem_cons hls
  have hw : wrap64 ((i : Int) + 1) = ((i + 1 : Nat) : Int) := by rw [wr1 (n := s.size) (by omega) (by omega) hs]; omega
  rw [hds, List.any_cons]
  by_cases c : 128 ≤ ((toL s)[i]).toNat
  ·rw [decide_eq_true c, Bool.true_or]
   refine Ev.step (f := fun _ => some true) (fun k => ?_) (Ev.now _)
   simp only [spec_cronForeign.l0]
   rw [if_pos (by omega), if_pos (by omega), if_pos (by omega), hb, if_pos (by omega)]
  ·rw [decide_eq_false c, Bool.false_or]
   refine Ev.step (fun k => ?_) (ih (i + 1) (by omega))
   simp only [spec_cronForeign.l0]
   rw [if_pos (by omega), if_pos (by omega), if_pos (by omega), hb, if_neg (by omega), hw]
def foreign (l : Txt) : Bool := l.any fun c => 128 ≤ c.toNat
theorem foreign_f (s : ByteArray) (hs : s.size ≤ 4294967296) : Ev (fun k => spec_cronForeign.f k s) (foreign (toL s)) := by
 have := foreign_l s hs s.size 0 (by omega)
 rw [List.drop_zero] at this
 exact this
def EndsR (kind : Int) (l : Txt) (lo hi : Int) (star single : Bool) : Prop :=
 (∃ e, pieces 45 [] l = [e] ∧ (e = [42] ∨ (e = [63] ∧ (kind = 3 ∨ kind = 5))) ∧ lo = low kind ∧ hi = high kind ∧ star = true ∧ single = true)
 ∨ (∃ e, pieces 45 [] l = [e] ∧ e ≠ [42] ∧ e ≠ [63] ∧ ValR kind e lo ∧ hi = lo ∧ star = false ∧ single = true)
 ∨ (∃ e1 e2, pieces 45 [] l = [e1, e2] ∧ e1 ≠ [42] ∧ e1 ≠ [63] ∧ ValR kind e1 lo ∧ ValR kind e2 hi ∧ star = false ∧ single = false)
theorem worse_f (a b : Int) (ha : 0 ≤ a) (hb : 0 ≤ b) : ∃ v, spec_worse.f a b = some v ∧ 0 ≤ v ∧ (v = 1 → a = 1 ∧ b = 1) := by
 unfold spec_worse.f
 by_cases h0 : a = 0
 ·exact ⟨0, by rw [if_pos h0], by decide, fun h => by cases h⟩
 ·by_cases h1 : b = 0
  ·exact ⟨0, by rw [if_neg h0, if_pos h1], by decide, fun h => by cases h⟩
  ·refine ⟨mx a b, by rw [if_neg h0, if_neg h1], ?_, ?_⟩ <;> unfold mx <;> omega
theorem pieces_total (c : UInt8) : ∀ (l pre : Txt), ((pieces c pre l).map List.length).sum ≤ pre.length + l.length := by
 intro l
 induction l with
 | nil => intro pre; simp [pieces]
 | cons x l ih =>
  intro pre; unfold pieces; split
  ·have := ih []; simp at this ⊢; omega
  ·have := ih (pre ++ [x]); simp at this ⊢; omega
theorem sum_mem (l : List Nat) (x : Nat) (h : x ∈ l) : x ≤ l.sum := by
 induction l with
 | nil => cases h
 | cons a l ih =>
  rcases List.mem_cons.1 h with rfl | h
  ·simp
  ·have := ih h; simp; omega
theorem pieces_mem_len (c : UInt8) (l e : Txt) (h : e ∈ pieces c [] l) : e.length ≤ l.length := by
 have h1 := pieces_total c l []
 have h2 := sum_mem _ _ (List.mem_map_of_mem (f := List.length) h)
 simp at h1; omega
open Go.RowKit Go.Proofs.YtcjdideliifkhaaGreatDoorW.PrintWords Go.Proofs.YtcjdideliifkhaaGreatDoorW.PrintLast Go.Proofs.YtcjdideliifkhaaGreatDoorW.PrintMore
def SAt (w : World) (b : Nat) (s : CSet) : Prop := w.heap[b]? = some (.cells s.cells.toArray 36 (0, 0))
theorem cells_set_star (s : CSet) (v : Bool) : s.cells.toArray.setIfInBounds 0 (.bool v) = ({ s with star := v } : CSet).cells.toArray := by
 simp [CSet.cells]
theorem cells_set_has (s : CSet) (i : Nat) (v : Bool) : s.cells.toArray.setIfInBounds (1 + i) (.bool v) = ({ s with has := fun j => if j = i then v else s.has j } : CSet).cells.toArray := by
 rw [List.setIfInBounds_toArray]
 congr 1
 unfold CSet.cells
 rw [Nat.add_comm 1 i, List.set_cons_succ]
 congr 1
 apply List.ext_getElem?
 intro j
 rw [List.getElem?_set]
 by_cases c : i = j
 ·subst c
  by_cases h : i < 63
  ·simp [h]
  ·simp [h]
 ·rw [if_neg c]
  by_cases h : j < 63
  ·simp [h]; exact fun (e : j = i) => absurd e.symm c
  ·simp [h]
theorem SAt.lt {w : World} {b : Nat} {s : CSet} (h : SAt w b s) : b < w.heap.size := blk_lt h
theorem SAt.star {w : World} {b : Nat} {s : CSet} (h : SAt w b s) : w.cell? ⟨b, 0, none⟩ = some (.bool s.star) := blk_cell h 0
theorem SAt.has {w : World} {b : Nat} {s : CSet} (h : SAt w b s) (i : Nat) (hi : i < 63) : w.cell? ⟨b, 1 + i, none⟩ = some (.bool (s.has i)) := by
 rw [blk_cell h (1 + i), List.getElem?_toArray]; exact CSet.cells_has s i hi
theorem SAt.frozen {w : World} {b : Nat} {s : CSet} (h : SAt w b s) (i : Nat) : w.frozen? ⟨b, i, none⟩ = false := blk_frozen h i
theorem SAt.range {w : World} {b : Nat} {s : CSet} (h : SAt w b s) : w.rangeAt b 0 s.cells := fun j v hv => by
 rw [Nat.zero_add, blk_cell h j, List.getElem?_toArray]; exact hv
theorem SAt.there {w : World} {b : Nat} {s : CSet} (h : SAt w b s) : w.there b 0 64 := fun j hj => by
 rw [Nat.zero_add, blk_cell h j, List.getElem?_toArray]
 exact ⟨by rw [List.getElem?_eq_getElem (by rw [CSet.cells_len]; exact hj)]; rfl, h.frozen j⟩
theorem SAt.setHas {w : World} {b : Nat} {s : CSet} (h : SAt w b s) (i : Nat) (v : Bool) : SAt (w.setCell ⟨b, 1 + i, none⟩ (.bool v)) b { s with has := fun j => if j = i then v else s.has j } :=
 blk_put h (1 + i) _ (cells_set_has s i v)
theorem SAt.setStar {w : World} {b : Nat} {s : CSet} (h : SAt w b s) (v : Bool) : SAt (w.setCell ⟨b, 0, none⟩ (.bool v)) b { s with star := v } :=
 blk_put h 0 _ (cells_set_star s v)
theorem SAt.far {w : World} {b : Nat} {s : CSet} (h : SAt w b s) {p : Addr} (hp : b ≠ p.block) (v : Value) : SAt (w.setCell p v) b s := blk_far h hp v
theorem SAt.below {w w' : World} {b : Nat} {s : CSet} (h : SAt w b s) (hb : Below w.heap.size w w') : SAt w' b s := blk_below h hb
theorem SAt.allocd {w : World} {b : Nat} {s : CSet} (h : SAt w b s) (o : Obj) : SAt (w.alloc o) b s := blk_alloc h o
theorem SAt.boxed (w : World) (s : CSet) : SAt (w.alloc (.cells s.cells.toArray 36)) w.heap.size s := blk_new w _
theorem setCells_heap (b : Nat) (t : TypeId) : ∀ (vs : List Value) (o : Nat) (w : World) (cs : List Value), w.heap[b]? = some (.cells cs.toArray t (0, 0)) → o + vs.length = cs.length →
  (w.setCells b o vs).heap[b]? = some (.cells (cs.take o ++ vs).toArray t (0, 0)) := by
 intro vs
 induction vs with
 | nil => intro o w cs h hl; rw [World.setCells, h]; simp at hl; rw [List.append_nil, List.take_of_length_le (by omega)]
 | cons v vs ih =>
  intro o w cs h hl
  rw [World.setCells]
  have h1 : (w.setCell ⟨b, o, none⟩ v).heap[b]? = some (.cells (cs.set o v).toArray t (0, 0)) := blk_put h o v (by rw [List.setIfInBounds_toArray])
  rw [ih (o + 1) _ _ h1 (by simp at hl ⊢; omega)]
  have : (cs.set o v).take (o + 1) = cs.take o ++ [v] := by
   simp at hl
   apply List.ext_getElem?
   intro j
   by_cases c : j < o
   ·rw [List.getElem?_append_left (by simp; omega)]
    simp [List.getElem?_take, List.getElem?_set, c, show j < o + 1 by omega, show ¬ o = j by omega]
   ·rw [List.getElem?_append_right (by simp; omega)]
    by_cases c2 : j = o
    ·subst c2
     simp [List.getElem?_take, List.getElem?_set, show min j cs.length = j by omega, show j < cs.length by omega]
    ·simp [List.getElem?_take, List.getElem?_set, show min o cs.length = o by omega, show ¬ j < o + 1 by omega]
     omega
  rw [this, List.append_assoc]; rfl
theorem SAt.put {w : World} {b : Nat} {s : CSet} (h : SAt w b s) (s' : CSet) : SAt (w.setCells b 0 s'.cells.toArray.toList) b s' := by
 have := setCells_heap b 36 s'.cells 0 w s.cells h (by rw [CSet.cells_len, CSet.cells_len])
 simpa [SAt] using this
theorem setCells_below (b B : Nat) (hB : B ≤ b) : ∀ (vs : List Value) (o : Nat) (a w : World), Below B a w → Below B a (w.setCells b o vs) := by
 intro vs
 induction vs with
 | nil => intro o a w h; exact h
 | cons v vs ih => intro o a w h; exact ih _ _ _ (h.setCell hB _)
theorem setCells_size (b : Nat) : ∀ (vs : List Value) (o : Nat) (w : World), (w.setCells b o vs).heap.size = w.heap.size := by
 intro vs
 induction vs with
 | nil => intro o w; rfl
 | cons v vs ih => intro o w; rw [World.setCells, ih]; simp [World.setCell]
theorem all_cells (s : CSet) : s.cells.toArray.all (·.oneCell') = true := all_oneCell_toArray fun v hv => by
 unfold CSet.cells at hv
 rcases List.mem_cons.1 hv with rfl | hv
 ·rfl
 ·obtain ⟨i, _, rfl⟩ := List.mem_map.1 hv; rfl
theorem wpList_store_set {ops : Array Oper} {rest : List Oper} {op : Oper} {a : Act} {w : World} {Q : Exit → Act → World → Prop} (hgd : op.guard = none) (x y : Operand) (ho : op.op = .store 36 x y)
  (b : Nat) (s s' : CSet) (hx : a.eval x = .pointer (some ⟨b, 0, none⟩)) (hy : a.eval y = .agg s'.cells.toArray) (hs : SAt w b s)
  (h : ∀ w1, SAt w1 b s' → (∀ B, B ≤ b → Below B w w1) → (∀ i, i < w.heap.size → i ≠ b → w1.heap[i]? = w.heap[i]?) → w1.heap.size = w.heap.size → wpList Tryz.prog ops Q rest (a.put op.dst undef) w1) : wpList Tryz.prog ops Q (op :: rest) a w :=
 wpList_store_mid hgd 36 x y ho b 0 s'.cells.toArray hx hy (by rw [List.size_toArray, CSet.cells_len]; exact hs.there) (by rw [List.size_toArray, CSet.cells_len]; kernel_rfl) (all_cells s')
  (h _ (hs.put s') (fun B hB => setCells_below b B hB _ 0 w w (Below.refl _ _)) (fun i hi hne => World.heap_setCells_other w b 0 _ hi hne) (setCells_size b _ 0 w))
theorem exec_index34 (ρ : Operand → Value) (op : Oper) (x y : Operand) (ho : op.op = .index 34 x y) (f : Nat → Bool) (i : Nat) (hi : i < 63) (hx : ρ x = .agg (bvals 63 f).toArray) (hy : ρ y = .int .i64 (i : Int)) (w : World) :
  (execOp ρ op).run Tryz.prog w = .ok (.value (.bool (f i))) w := by
 have hu : Tryz.prog.underlying 34 = some (.array 63 4) := by kernel_rfl
 have hs : ∀ w, (sizeOf 4).run Tryz.prog w = .ok 1 w := fun w => by kernel_rfl
 have hA : ∀ w, (isAgg 4).run Tryz.prog w = .ok false w := fun w => by kernel_rfl
 have hp : (part 4 (bvals 63 f).toArray (i * 1)).run Tryz.prog w = .ok (.bool (f i)) w := by
  unfold part
  rw [Sem.run_bind, hA]
  simp only [Result.andThen, Bool.false_eq_true, if_false, Nat.mul_one, List.getElem?_toArray]
  rw [bvals_at 63 f i hi]
  rfl
 have hr : (Instr.index 34 (.agg (bvals 63 f).toArray) (.int .i64 (i : Int))).run Tryz.prog w = .ok (.bool (f i)) w := by
  unfold Instr.index
  simp only [asIntOf, Sem.run_bind, Sem.run_pure, Result.andThen]
  rw [run_underlying hu w]
  simp only [Result.andThen]
  rw [if_pos (by omega), Sem.run_bind, hs]
  simp only [Result.andThen, Int.toNat_natCast]
  exact hp
 unfold execOp
 rw [ho]
 simp only [hx, hy]
 rw [Sem.run_bind, hr]
 rfl
end Go.Proofs.YtcjdideliifkhaaGreatDoor
