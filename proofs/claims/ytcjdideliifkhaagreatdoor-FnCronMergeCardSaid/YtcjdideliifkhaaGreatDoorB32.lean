import Derived.Laws.CopyOwn
import Derived.Test.YtcjdideliifkhaaGreatDoorB31
set_option maxRecDepth 100000
set_option maxHeartbeats 16000000
namespace Go.Proofs.YtcjdideliifkhaaGreatDoor
open Go.RowKit Go.Proofs.YtcjdideliifkhaaGreatDoorW.PrintWords Go.Proofs.YtcjdideliifkhaaGreatDoorW.PrintLast Go.Proofs.YtcjdideliifkhaaGreatDoorW.PrintMore PFnCronTextAfterAnywhere
set_option linter.unusedVariables false
set_option linter.unusedSimpArgs false
def plcs : Array Value := #[.int .i64 1, .int .i64 4, .int .i64 8, .int .i64 16, .int .i64 32, .int .i64 64]
theorem plcs_at (k : Nat) (hk : k < 6) : plcs[k]? = some (.int .i64 (plc k)) := by
 have : k = 0 ∨ k = 1 ∨ k = 2 ∨ k = 3 ∨ k = 4 ∨ k = 5 := by omega
 rcases this with rfl | rfl | rfl | rfl | rfl | rfl <;> rfl
theorem places_c (w : World) : Calls Tryz.prog 92 #[] w fun e w' => ∃ g, e = .returned (.slice (some ⟨g, 0, none⟩) 6 6) ∧ w.heap.size ≤ g ∧ w'.heap[g]? = some (.cells plcs 76 (0, 0)) ∧ Below w.heap.size w w' := by
 go_enter Tryz.func92, Tryz.ntmps92
 go_wp2
 go_ret
 exact ⟨_, rfl, Nat.le_refl _, blk_new w _, below_alloc (Below.refl _ _) _⟩
theorem defaults_c (w : World) : Calls Tryz.prog 93 #[] w fun e w' => ∃ g, e = .returned (.slice (some ⟨g, 0, none⟩) 6 6) ∧ w.heap.size ≤ g ∧ w'.heap[g]? = some (.cells (tcells dflt).toArray 9 (0, 0)) ∧ Below w.heap.size w w' := by
 go_enter Tryz.func93, Tryz.ntmps93
 go_wp2
 go_ret
 exact ⟨_, rfl, Nat.le_refl _, blk_new w _, below_alloc (Below.refl _ _) _⟩
theorem grown_then {w w1 w2 : World} {row row2 : Option Nat} (h : w.grownBy w1 row) (k : w1.grownBy w2 row2) (hr : ∀ b, row2 = some b → row = some b ∨ w.heap.size ≤ b) : w.grownBy w2 row :=
 ⟨k.os.trans h.os, k.tape.trans h.tape, k.output.trans h.output, Nat.le_trans h.size k.size, fun b hb hne => by
  rw [k.block b (Nat.lt_of_lt_of_le hb h.size) (fun e => by
   rcases hr b e.symm with h1 | h1
   ·exact hne h1.symm
   ·omega)]
  exact h.block b hb hne⟩
theorem grown_below {w w' : World} (row : Option Nat) (h : Below w.heap.size w w') : w.grownBy w' row := ⟨h.os, h.tape, h.output, h.size, fun b hb _ => h.block b hb⟩
def strs (l : List Txt) : List Value := l.map fun t => .string (ofL t)
structure NfS (w : World) (row : Option Nat) (base : Nat) (v : Value) (l : List Txt) (w' : World) : Prop where
 own : w'.ownsRow base 9 1 v l.length (strs l)
 grown : w.grownBy w' row
theorem own_below {w w' : World} {base : Nat} {v : Value} {n : Nat} {us : List Value} (h : w.ownsRow base 9 1 v n us) (hb : Below w.heap.size w w') : w'.ownsRow base 9 1 v n us := by
 obtain ⟨hl, h1 | ⟨g, cap, cur, rfl, hg, hc, hr⟩⟩ := h
 ·exact ⟨hl, .inl h1⟩
 ·exact ⟨hl, .inr ⟨g, cap, cur, rfl, hg, blk_below hc hb, hr⟩⟩
theorem NfS.goes {w : World} {row : Option Nat} {base : Nat} {v : Value} {l : List Txt} {w' w'' : World} (h : NfS w row base v l w') (hb : Below w'.heap.size w' w'') : NfS w row base v l w'' :=
 ⟨own_below h.own hb, grown_then h.grown (grown_below none hb) (fun b e => by cases e)⟩
theorem own_cell {w : World} {base : Nat} {v : Value} {l : List Txt} (h : w.ownsRow base 9 1 v l.length (strs l)) (hne : l ≠ []) : ∃ g cap, v = .slice (some ⟨g, 0, none⟩) l.length cap ∧ base ≤ g ∧ (∃ cur, w.heap[g]? = some (.cells cur 9 (0, 0))) ∧ ∀ i (hi : i < l.length), w.cell? ⟨g, i, none⟩ = some (.string (ofL l[i])) := by
 obtain ⟨hl, h1 | ⟨g, cap, cur, rfl, hg, hc, hn, hcap, hsz, ht⟩⟩ := h
 ·exact absurd (List.eq_nil_of_length_eq_zero h1.2) hne
 ·refine ⟨g, cap, rfl, hg, ⟨cur, hc⟩, fun i hi => ?_⟩
  rw [blk_cell hc i]
  have h2 : (cur.toList.take (l.length * 1))[i]? = some (.string (ofL l[i])) := by rw [ht]; unfold strs; simp [hi]
  rw [List.getElem?_take] at h2
  split at h2
  ·simpa using h2
  ·cases h2
theorem own_lt {w : World} {base : Nat} {v : Value} {n : Nat} {us : List Value} (h : w.ownsRow base 9 1 v n us) : ∀ b, v.ownBlock = some b → b < w.heap.size ∧ base ≤ b := by
 obtain ⟨hl, h1 | ⟨g, cap, cur, rfl, hg, hc, hr⟩⟩ := h
 ·intro b hb; rw [h1.1] at hb; cases hb
 ·intro b hb; cases hb; exact ⟨blk_lt hc, hg⟩
theorem NfS.far {w : World} {row : Option Nat} {base : Nat} {v : Value} {l : List Txt} {w' w'' : World} {B : Nat} (h : NfS w row base v l w') (hb : Below B w' w'') (hob : ∀ b, v.ownBlock = some b → b < B) (hB : w.heap.size ≤ B) : NfS w row base v l w'' := by
 refine ⟨?_, ?_⟩
 ·obtain ⟨hl, h1 | ⟨g, cap, cur, rfl, hg, hc, hr⟩⟩ := h.own
  ·exact ⟨hl, .inl h1⟩
  ·exact ⟨hl, .inr ⟨g, cap, cur, rfl, hg, (hb.block g (hob g rfl)).trans hc, hr⟩⟩
 ·exact ⟨hb.os.trans h.grown.os, hb.tape.trans h.grown.tape, hb.output.trans h.grown.output, Nat.le_trans h.grown.size hb.size, fun b h1 h2 => (hb.block b (by omega)).trans (h.grown.block b h1 h2)⟩
theorem wpList_appN {ops : Array Oper} {rest : List Oper} {o : Oper} {a : Act} {Q : Exit → Act → World → Prop} {w0 w : World} {row : Option Nat} {base : Nat} {v : Value} {l : List Txt} (hN : NfS w0 row base v l w) (hrow : ∀ b, v.ownBlock = some b → row = some b ∨ w0.heap.size ≤ b) (hbase : base ≤ w0.heap.size)
  (hgd : o.guard = none) (s x : Operand) (ho : o.op = .call { callee := .builtin .append, args := #[s, x], argTypes := #[50, 50] }) (hs : a.eval s = v) (g c : Nat) (t : Txt) (hx : a.eval x = .slice (some ⟨g, 0, none⟩) 1 c) (hu : w.cell? ⟨g, 0, none⟩ = some (.string (ofL t))) (hl : l.length ≤ 4294967296)
  (h : ∀ v' w', NfS w0 row base v' (l ++ [t]) w' → (v' ≠ .slice none 0 0) → wpList Tryz.prog ops Q rest (a.put o.dst v') w') : wpList Tryz.prog ops Q (o :: rest) a w := by
 have hb := elem9.bytes
 refine wpList_append_own w hgd s x 50 ho base 9 info9 (.string ⟨#[]⟩) 1 info9.bytes elem9.sl elem9.inf elem9.zero elem9.size rfl elem9.cells (by decide) v l.length (strs l) hs hN.own ⟨g, 0, none⟩ 1 c [.string (ofL t)] hx rfl ?_ ?_ ?_ ?_ (Nat.le_trans hbase hN.grown.size) ?_
 ·intro j u' hj
  have : j = 0 := by
   rcases Nat.eq_zero_or_pos j with h | h
   ·exact h
   ·rw [List.getElem?_eq_none (by simp; omega)] at hj; cases hj
  subst this
  simp at hj
  rw [add_plain, hu, hj]
 ·intro u' hu'
  rw [List.mem_singleton] at hu'
  rw [hu']; rfl
 ·unfold maxLen; omega
 ·calc (l.length + 1) * info9.bytes ≤ (4294967296 + 1) * 16 := Nat.mul_le_mul (by omega) hb
   _ ≤ _ := by decide
 ·intro v' w' hown hg hn
  refine h v' w' ⟨by simpa [strs] using hown, grown_then hN.grown hg (fun b hb => hrow b hb)⟩ (fun he => ?_)
  have := (hn.1 he).2
  cases this
theorem wpList_preN {ops : Array Oper} {rest : List Oper} {o : Oper} {a : Act} {Q : Exit → Act → World → Prop} {w0 w : World} {row : Option Nat} {base : Nat} {l : List Txt} {g0 cap0 : Nat} (hN : NfS w0 row base (.slice (some ⟨g0, 0, none⟩) l.length cap0) l w) (hbase : base ≤ w0.heap.size)
  (hgd : o.guard = none) (s x : Operand) (ho : o.op = .call { callee := .builtin .append, args := #[s, x], argTypes := #[50, 50] }) (g : Nat) (hg : w0.heap.size ≤ g) (t : Txt) (hs : a.eval s = .slice (some ⟨g, 0, none⟩) 1 1) (hblk : w.heap[g]? = some (.cells #[.string (ofL t)] 9 (0, 0))) (hx : a.eval x = .slice (some ⟨g0, 0, none⟩) l.length cap0) (hne : l ≠ []) (hl : l.length ≤ 4294967296)
  (h : ∀ v' w', NfS w0 row base v' (t :: l) w' → (∀ b, v'.ownBlock = some b → b < w'.heap.size) → wpList Tryz.prog ops Q rest (a.put o.dst v') w') : wpList Tryz.prog ops Q (o :: rest) a w := by
 have hb := elem9.bytes
 obtain ⟨g1, cap1, he, _, _, hcell⟩ := own_cell hN.own hne
 injection he with he1 he2 he3
 injection he1 with he1
 injection he1 with he1 _ _
 subst he1
 have hown0 : w.ownsRow base 9 1 (.slice (some ⟨g, 0, none⟩) 1 1) 1 [.string (ofL t)] := ⟨rfl, .inr ⟨g, 1, #[.string (ofL t)], rfl, Nat.le_trans hbase hg, hblk, Nat.le_refl _, by decide, rfl, rfl⟩⟩
 have hsl : (strs l).length = l.length := by unfold strs; simp
 refine wpList_append_own w hgd s x 50 ho base 9 info9 (.string ⟨#[]⟩) 1 info9.bytes elem9.sl elem9.inf elem9.zero elem9.size rfl elem9.cells (by decide) _ 1 _ hs hown0 ⟨g0, 0, none⟩ l.length cap0 (strs l) hx (by rw [hsl, Nat.mul_one]) ?_ ?_ ?_ ?_ (Nat.le_trans hbase hN.grown.size) ?_
 ·intro j u' hj
  have hjl : j < l.length := by have := (List.getElem?_eq_some_iff.1 hj).1; rwa [hsl] at this
  rw [add_plain, hcell j hjl]
  unfold strs at hj
  rw [List.getElem?_map, List.getElem?_eq_getElem hjl] at hj
  exact hj
 ·intro u' hu'
  unfold strs at hu'
  obtain ⟨x, _, rfl⟩ := List.mem_map.1 hu'
  rfl
 ·unfold maxLen; omega
 ·calc (1 + l.length) * info9.bytes ≤ (4294967296 + 1) * 16 := Nat.mul_le_mul (by omega) hb
   _ ≤ _ := by decide
 ·intro v' w' hown hg' hn
  refine h v' w' ⟨?_, grown_then hN.grown hg' (fun b hb => by cases hb; exact .inr hg)⟩ (fun b hb => (own_lt hown b hb).1)
  have : (t :: l).length = 1 + l.length := by simp; omega
  rw [this]
  exact hown
theorem wpList_make_texts2 {ops : Array Oper} {rest : List Oper} {op : Oper} {a : Act} {w : World} {Q : Exit → Act → World → Prop} (hgd : op.guard = none) (x y : Operand) (ho : op.op = .makeSlice 50 x y) (hx : a.eval x = .int .i64 6) (hy : a.eval y = .int .i64 6)
  (h : ∀ g, g = w.heap.size → ∀ w1, w1.heap[g]? = some (.cells (tcells fun _ => []).toArray 9 (0, 0)) → Below w.heap.size w w1 → g < w1.heap.size → wpList Tryz.prog ops Q rest (a.put op.dst (.slice (some ⟨g, 0, none⟩) 6 6)) w1) : wpList Tryz.prog ops Q (op :: rest) a w := by
 refine wpList_make_full w hgd _ _ 50 ho w.heap.size 9 info9 (.string ⟨#[]⟩) 1 (by kernel_rfl) (by kernel_rfl) (by kernel_rfl) (by kernel_rfl) .i64 .i64 6 6 6 hx hy rfl rfl (by rw [show info9.bytes = 16 by kernel_rfl]; decide) (by decide) (Nat.le_refl _) ?_
 intro w1 hown hgr
 have hb : Below w.heap.size w w1 := (Below.refl _ _).grown hgr (Nat.le_refl _) (fun k hk => by cases hk)
 obtain ⟨h1, h2 | ⟨g, cap, cur, e, hg, hc, hn, hcap, hsz, ht⟩⟩ := hown
 ·cases h2.2
 ·have e1 : g = w.heap.size ∧ cap = 6 := by injection e with e1 e2 e3; injection e1 with e1; injection e1 with e1 _ _; exact ⟨e1.symm, e3.symm⟩
  obtain ⟨rfl, rfl⟩ := e1
  have hcur : cur = (tcells fun _ => []).toArray := by
   apply Array.ext'
   rw [List.take_of_length_le (by simp [hsz])] at ht
   rw [ht]
   kernel_rfl
  rw [hcur] at hc
  exact h _ rfl _ hc hb (blk_lt hc)
theorem tcells_one (f : Nat → Txt) : ∀ v ∈ tcells f, v.oneCell' = true := by
 intro v hv
 unfold tcells at hv
 obtain ⟨k, _, rfl⟩ := List.mem_map.1 hv
 rfl
theorem splice_all (f g : Nat → Txt) : Go.splice (tcells f) 0 (tcells g) = tcells g := by
 unfold Go.splice
 have h1 : (tcells g).length = 6 := by simp [tcells]
 have h2 : (tcells f).length = 6 := by simp [tcells]
 rw [List.take_zero, List.nil_append, h1, List.drop_of_length_le (by omega), List.append_nil]
theorem strs_at {w : World} {g : Nat} {f : Nat → Txt} {l : List Txt} (h : w.heap[g]? = some (.cells (tcells f).toArray 9 (0, 0))) (he : tcells f = strs l) : Strs w (.slice (some ⟨g, 0, none⟩) 6 6) (l.map ofL) := by
 have hl : l.length = 6 := by have := congrArg List.length he; simp [tcells, strs] at this; exact this.symm
 refine ⟨some ⟨g, 0, none⟩, 6, by simp [hl], fun i hi => ⟨⟨g, 0, none⟩, rfl, ?_⟩⟩
 rw [add_plain, blk_cell h i, List.getElem?_toArray, he]
 have hi' : i < l.length := by simpa using hi
 unfold strs
 rw [List.getElem?_map, List.getElem?_eq_getElem hi']
 simp
def NfL (o : Nat) (w : World) (g0 base : Nat) (v0 : Value) (wx : List Txt) (ge gp : Nat) (v12 v102 : Value) (wr : World) : Prop :=
 ∃ (i : Nat) (f : Nat → Txt), v102 = .int .i64 (i : Int) ∧ v12 = .int .i64 (cnt (o : Int) i : Int) ∧ i ≤ 6 ∧ NfS w (some g0) base v0 wx wr ∧ wr.heap[ge]? = some (.cells (tcells f).toArray 9 (0, 0)) ∧ wr.heap[gp]? = some (.cells plcs 76 (0, 0)) ∧
  (∀ k, k < i → f k = fullX (o : Int) wx k) ∧ (∀ k, i ≤ k → f k = dflt k)
theorem NfL.put {o : Nat} {w wr : World} {g0 base : Nat} {v0 : Value} {wx : List Txt} {ge gp i : Nat} {f : Nat → Txt} (hN : NfS w (some g0) base v0 wx wr) (hK : wr.heap[ge]? = some (.cells (tcells f).toArray 9 (0, 0))) (hP : wr.heap[gp]? = some (.cells plcs 76 (0, 0)))
  (hob : ∀ b, v0.ownBlock = some b → b < ge) (hge : w.heap.size ≤ ge) (hne : ge ≠ gp) (hi : i < 6) (hlo : ∀ k, k < i → f k = fullX (o : Int) wx k) (hhi : ∀ k, i ≤ k → f k = dflt k) (fv : Txt) (hfv : fv = fullX (o : Int) wx i) :
  NfS w (some g0) base v0 wx (wr.setCell ⟨ge, i, none⟩ (.string (ofL fv))) ∧ (wr.setCell ⟨ge, i, none⟩ (.string (ofL fv))).heap[ge]? = some (.cells (tcells fun k => if k = i then fv else f k).toArray 9 (0, 0)) ∧
   (wr.setCell ⟨ge, i, none⟩ (.string (ofL fv))).heap[gp]? = some (.cells plcs 76 (0, 0)) ∧ (∀ k, k < i + 1 → (fun k => if k = i then fv else f k) k = fullX (o : Int) wx k) ∧ (∀ k, i + 1 ≤ k → (fun k => if k = i then fv else f k) k = dflt k) := by
 refine ⟨hN.far (B := ge) ((Below.refl ge wr).setCell (p := ⟨ge, i, none⟩) (Nat.le_refl _) _) hob hge, blk_put hK i _ (tcells_set f i fv), blk_far hP (fun e => hne e.symm) _, fun k hk => ?_, fun k hk => ?_⟩
 ·show (if k = i then fv else f k) = _
  by_cases e : k = i
  ·rw [if_pos e, e]; exact hfv
  ·rw [if_neg e]; exact hlo k (by omega)
 ·show (if k = i then fv else f k) = _
  rw [if_neg (by omega)]; exact hhi k (by omega)
theorem norm_c (o : Nat) (ho : o < 512) (h2 : spec_CronTwoOptional.f (o : Int) = some false) (words : List Txt) (hwl : words.length ≤ 4294967296) (hwne : words ≠ []) (m : Int) (hm : missN o words.length = some m) (base : Nat) (v : Value) (w : World) (hrow : w.ownsRow base 9 1 v words.length (strs words)) (hbase : base ≤ w.heap.size) :
  Calls Tryz.prog 56 #[v, .int .i64 (o : Int)] w fun e w' => (∃ v', e = .returned (.tuple #[v', .nilIface]) ∧ Strs w' v' ((full (o : Int) m words).map ofL)) ∧ w.grownBy w' v.ownBlock := by
 obtain ⟨hplc, hcnt, hmiss⟩ := norm_facts o ho h2
 obtain ⟨hfull, hwx, hmm⟩ := full_eq o ho h2 words m hm
 obtain ⟨g0, cap0, rfl, hg0, ⟨cur0, hcur0⟩, hcell0⟩ := own_cell hrow hwne
 have HROW := Lib.hid hrow
 have HPLC := Lib.hid hplc
 have HCNT := Lib.hid hcnt
 have HMISS := Lib.hid hmiss
 have HFULL := Lib.hid hfull
 have HWX := Lib.hid hwx
 have HMM := Lib.hid hmm
 have HCUR := Lib.hid hcur0
 clear hplc hcnt hmiss hfull hwx hmm hrow hm hcell0 hcur0
 go_enter Tryz.func56, Tryz.ntmps56
 obtain ⟨b2, hb2⟩ : ∃ b, decide (0 < Go.bits .and .i64 (o : Int) 2) = b := ⟨_, rfl⟩
 go_upto_if 18 with (fail)
 have HB2 := Lib.hid hb2
 clear hb2
 go_cut [1, 6] (fun v1 v6 wc => v1 = .int .i64 (opt1 (o : Int)) ∧ v6 = .int .i64 (cnt1 (o : Int)) ∧ w = wc)
 case first =>
  cases b2 with
  | true =>
   have h : 0 < Go.bits .and .i64 (o : Int) 2 := by simpa using HB2.out
   have H1 := Lib.hid (show opt1 (o : Int) = Go.bits .or .i64 (o : Int) 1 by unfold opt1; rw [if_pos h])
   have H2 := Lib.hid (show cnt1 (o : Int) = 1 by unfold cnt1; rw [if_pos h])
   clear h
   go_wp2
   go_meet
   case rel => exact ⟨congrArg (Value.int .i64) H1.out.symm, congrArg (Value.int .i64) H2.out.symm, rfl⟩
  | false =>
   have h : ¬ 0 < Go.bits .and .i64 (o : Int) 2 := by simpa using HB2.out
   have H1 := Lib.hid (show opt1 (o : Int) = o by unfold opt1; rw [if_neg h])
   have H2 := Lib.hid (show cnt1 (o : Int) = 0 by unfold cnt1; rw [if_neg h])
   clear h
   go_wp2
   go_meet
   case rel => exact ⟨congrArg (Value.int .i64) H1.out.symm, congrArg (Value.int .i64) H2.out.symm, rfl⟩
 case rest =>
  obtain ⟨rfl, rfl, rfl⟩ := hcut
  have hc1 : 0 ≤ cnt1 (o : Int) ∧ cnt1 (o : Int) ≤ 1 := by unfold cnt1; split <;> decide
  obtain ⟨hc1a, hc1b⟩ := hc1
  obtain ⟨b3, hb3⟩ : ∃ b, decide (0 < Go.bits .and .i64 (opt1 (o : Int)) 128) = b := ⟨_, rfl⟩
  go_upto_if 25 with (fail)
  have HB3 := Lib.hid hb3
  clear hb3
  go_cut [1, 6] (fun v1 v6 wc => v1 = .int .i64 (opt2 (o : Int)) ∧ v6 = .int .i64 (cnt2 (o : Int)) ∧ w = wc)
  case first =>
   cases b3 with
   | true =>
    have h : 0 < Go.bits .and .i64 (opt1 (o : Int)) 128 := by simpa using HB3.out
    have H1 := Lib.hid (show opt2 (o : Int) = Go.bits .or .i64 (opt1 (o : Int)) 64 by unfold opt2; rw [if_pos h])
    have H2 := Lib.hid (show cnt2 (o : Int) = cnt1 (o : Int) + 1 by unfold cnt2; rw [if_pos h])
    clear h
    go_wp2
    go_meet
    case rel => exact ⟨congrArg (Value.int .i64) H1.out.symm, congrArg (Value.int .i64) H2.out.symm, rfl⟩
   | false =>
    have h : ¬ 0 < Go.bits .and .i64 (opt1 (o : Int)) 128 := by simpa using HB3.out
    have H1 := Lib.hid (show opt2 (o : Int) = opt1 (o : Int) by unfold opt2; rw [if_neg h])
    have H2 := Lib.hid (show cnt2 (o : Int) = cnt1 (o : Int) by unfold cnt2; rw [if_neg h])
    clear h
    go_wp2
    go_meet
    case rel => exact ⟨congrArg (Value.int .i64) H1.out.symm, congrArg (Value.int .i64) H2.out.symm, rfl⟩
  case rest =>
   obtain ⟨rfl, rfl, rfl⟩ := hcut
   clear hc1a hc1b
   obtain ⟨c2, hc2, hc2b⟩ : ∃ c : Nat, cnt2 (o : Int) = c ∧ c ≤ 1 := by
    rw [HCNT.out]; split
    ·exact ⟨0, rfl, by decide⟩
    ·exact ⟨1, rfl, by decide⟩
   rw [hc2] at HCNT ⊢
   have hc2i : (c2 : Int) ≤ 1 := by omega
   clear hc2
   generalize opt2 (o : Int) = o2 at *
   have htk : ∀ k, k < 6 → decide (0 < Go.bits .and .i64 o2 (plc k)) = takes (o : Int) k := fun k hk => by
    cases h : takes (o : Int) k with
    | true => simpa using (HPLC.out k hk).2 h
    | false =>
     have hno : ¬ 0 < Go.bits .and .i64 o2 (plc k) := fun hh => by
      have := (HPLC.out k hk).1 hh
      rw [h] at this; cases this
     simpa using hno
   have HTK := Lib.hid htk
   clear htk HB2 HB3
   go_wp2_with (go_at_call 92; refine (places_c _).mono ?_; rintro e w1 ⟨gp, rfl, hgp, hP, hb1⟩; have HP := Lib.hid hP; have HB1 := Lib.hid hb1; clear hgp hP hb1)
   go_loop [7, 9, 35] (fun v7 _ v35 => ∃ i : Nat, i ≤ 6 ∧ v35 = .int .i64 (i : Int) ∧ v7 = .int .i64 (cnt (o : Int) i : Int)) (fun _ _ v35 => (6 - (intOf v35).toNat))
   case atStart => exact ⟨0, by decide, rfl, rfl⟩
   case round =>
    obtain ⟨i, hi, rfl, rfl⟩ := hrel
    have hcl := cnt_le (o : Int) i
    by_cases hlt : i < 6
    ·have hc : w1.cell? ⟨gp, i, none⟩ = some (.int .i64 (plc i)) := by rw [blk_cell HP.out i]; exact plcs_at i hlt
     have ht := HTK.out i hlt
     have HS := Lib.hid (show cnt (o : Int) (i + 1) = cnt (o : Int) i + if takes (o : Int) i then 1 else 0 from rfl)
     have hi0 : (0 : Int) ≤ (i : Int) := by omega
     have hi1 : (i : Int) < 6 := by omega
     generalize plc i = pl at *
     generalize takes (o : Int) i = tk at *
     cases tk with
     | true =>
      go_wp2
      exact ⟨⟨i + 1, by omega, by simp, by rw [HS.out]; simp⟩, by simp [intOf]; omega⟩
     | false =>
      go_wp2
      exact ⟨⟨i + 1, by omega, by simp, by rw [HS.out]; simp⟩, by simp [intOf]; omega⟩
    ·have hi6 : i = 6 := by omega
     subst hi6
     clear hlt
     have HN := Lib.hid (show NfS w (some g0) base (.slice (some ⟨g0, 0, none⟩) words.length cap0) words w1 from ⟨own_below HROW.out HB1.out, grown_below _ HB1.out⟩)
     clear HROW HCUR HP HB1
     have hcl0 : (0 : Int) ≤ (cnt (o : Int) 6 : Int) := by omega
     rcases HMM.out with ⟨hm1, hnC⟩ | ⟨hmO, h50, hn⟩
     ·have hwx : wordsX m words = words := by rw [hm1]; rfl
      have hA1 : (words.length : Int) ≤ (cnt (o : Int) 6 : Int) := by omega
      have hA2 : (cnt (o : Int) 6 : Int) ≤ (words.length : Int) := by omega
      have HnC := Lib.hid hnC
      have Hwx := Lib.hid hwx
      have c01 : c2 = 0 ∨ c2 = 1 := by omega
      clear hnC hwx hm1
      rcases c01 with rfl | rfl
      ·go_upto_region 29 with (fail)
       have hob := Lib.hid (fun b hb => (own_lt HN.out.own b hb).1)
       go_upto_region 31 with (first
        | (go_at_call 92; refine (places_c _).mono ?_; rintro e w4 ⟨gq, rfl, hgq, hP4, hb4⟩; have HN4 := Lib.hid (HN.out.goes hb4); have hs4 := hb4.size; clear hgq hP4 hb4)
        | (refine wpList_make_texts2 rfl _ _ rfl rfl rfl ?_; intro ge hge w5 hblk5 hb5 hlt5; have HN5 := Lib.hid (HN4.out.goes hb5); have HGE := Lib.hid (show w.heap.size ≤ ge ∧ ∀ b, Value.ownBlock (Value.slice (some ⟨g0, 0, none⟩) words.length cap0) = some b → b < ge from ⟨by rw [hge]; exact HN4.out.grown.size, fun b hb => by have := hob.out b hb; rw [hge]; omega⟩); have HK5 := Lib.hid hblk5; clear hge hblk5 hb5 hlt5))
       clear hs4
       go_upto_region 32 with (first
        | (go_at_call 93; refine (defaults_c _).mono ?_; rintro e w6 ⟨gd, rfl, hgd, hD6, hb6⟩; have HN6 := Lib.hid (HN5.out.goes hb6); have HK6 := Lib.hid (blk_below HK5.out hb6); have HD6 := Lib.hid hD6; clear hgd hD6 hb6)
        | (refine wpList_copy_splice rfl _ _ 50 50 rfl 9 Tryz.underlying50 (by kernel_rfl) (some ⟨ge, 0, none⟩) (some ⟨gd, 0, none⟩) 6 6 6 6 rfl rfl ge 0 (tcells fun _ => []) 9 HK6.out (tcells dflt) rfl (fun _ => ⟨rfl, _, rfl, fun j v hv => by rw [add_plain, blk_cell HD6.out j, List.getElem?_toArray]; exact hv⟩) (by decide) (tcells_one dflt) ge w6 (Below.refl _ _) (Nat.le_refl _) ?_; intro w7 hk7 hb7; have HK7 := Lib.hid hk7.out; have HN7 := Lib.hid (HN6.out.far hb7 HGE.out.2 HGE.out.1); clear hk7 hb7))
       go_wp2_with (go_at_call 92; refine (places_c _).mono ?_; rintro e w8 ⟨gp8, rfl, hgp8, hP8, hb8⟩; have HN8 := Lib.hid (HN7.out.goes hb8); have HK8 := Lib.hid (blk_below HK7.out hb8); have hne8 : ge ≠ gp8 := (by have := blk_lt HK7.out; omega); have hP8' := Lib.hid hP8; clear hgp8 hP8 hb8)
       have hL := Lib.hid (show NfL o w g0 base (Value.slice (some ⟨g0, 0, none⟩) words.length cap0) (words) ge gp8 (.int .i64 0) (.int .i64 0) w8 from ⟨0, dflt, rfl, rfl, by decide, HN8.out, (by have := HK8.out; simpa [splice_all] using this), hP8'.out, fun k hk => absurd hk (by omega), fun k _ => rfl⟩)
       clear HN HN4 HN5 HN6 HN7 HN8 HK5 HK6 HK7 HK8 hP8' HD6
       go_loopw [12, 14, 15, 102] (fun v12 _ _ v102 wr => NfL o w g0 base (Value.slice (some ⟨g0, 0, none⟩) words.length cap0) (words) ge gp8 v12 v102 wr) (fun _ _ _ v102 _ => (6 - (intOf v102).toNat))
       case atStart => exact hL.out
       case round =>
        obtain ⟨i, f, rfl, rfl, hi, hN, hK, hP, hlo, hhi⟩ := hrel
        clear hL
        have HN := Lib.hid hN
        have HK := Lib.hid hK
        have HP := Lib.hid hP
        have HLO := Lib.hid hlo
        have HHI := Lib.hid hhi
        clear hN hK hP hlo hhi
        by_cases hlt : i < 6
        ·have hc : wr.cell? ⟨gp8, i, none⟩ = some (.int .i64 (plc i)) := by rw [blk_cell HP.out i]; exact plcs_at i hlt
         have ht := HTK.out i hlt
         have hc0 : wr.cell? ⟨ge, i, none⟩ = some (.string (ofL (f i))) := by rw [blk_cell HK.out i, List.getElem?_toArray]; exact tcells_at f i hlt
         have hf0 : wr.frozen? ⟨ge, i, none⟩ = false := blk_frozen HK.out i
         have hi0 : (0 : Int) ≤ (i : Int) := by omega
         have hi1 : (i : Int) < 6 := by omega
         have hcl := cnt_le (o : Int) i
         cases htk : takes (o : Int) i with
         | true =>
          have hnx := cnt_mono (o : Int) (6 - (i + 1)) (i + 1)
          rw [show i + 1 + (6 - (i + 1)) = 6 by omega] at hnx
          have hsucc : cnt (o : Int) (i + 1) = cnt (o : Int) i + 1 := by
           have : cnt (o : Int) (i + 1) = cnt (o : Int) i + if takes (o : Int) i then 1 else 0 := rfl
           rw [this, htk]; rfl
          have hlen : cnt (o : Int) i < (words).length := by rw [HnC.out]; omega
          have hwne : (words) ≠ [] := fun h => by rw [h] at hlen; simp at hlen
          obtain ⟨g1, cap1, hv, _, ⟨cur1, hcur1⟩, hcell⟩ := own_cell HN.out.own hwne
          obtain ⟨tx, hcc, hfx⟩ : ∃ tx, wr.cell? ⟨g1, cnt (o : Int) i, none⟩ = some (.string (ofL tx)) ∧ tx = fullX (o : Int) (words) i := ⟨_, hcell _ hlen, by unfold fullX; rw [htk, if_pos rfl, List.getD_eq_getElem?_getD, List.getElem?_eq_getElem hlen]; rfl⟩
          have hge1 : g1 ≠ ge := by have := HGE.out.2 g1 (by rw [hv]; rfl); omega
          have HV := Lib.hid hv
          rw [htk] at ht
          have HNX := Lib.hid (fun (fv : Txt) (hfv : fv = fullX (o : Int) (words) i) => NfL.put (o := o) HN.out HK.out HP.out HGE.out.2 HGE.out.1 hne8 hlt HLO.out HHI.out fv hfv)
          have HFV := Lib.hid hfx
          have HSU := Lib.hid hsucc
          have hci0 : (0 : Int) ≤ (cnt (o : Int) i : Int) := by omega
          have hci1 : (cnt (o : Int) i : Int) < ((words).length : Int) := by omega
          clear hsucc hv hcell hwne hnx htk hcur1 hfx
          generalize (words).length = wl at *
          injection HV.out with e1 e2 e3; injection e1 with e1; injection e1 with e1 _ _; subst e1; clear e2 e3
          generalize cnt (o : Int) i = ci at *
          generalize plc i = pl at *
          go_wp2
          exact ⟨⟨i + 1, _, by simp, by rw [HSU.out]; simp, by omega, HNX.out tx HFV.out⟩, by simp [intOf]; omega⟩
         | false =>
          have hsucc : cnt (o : Int) (i + 1) = cnt (o : Int) i := by
           have : cnt (o : Int) (i + 1) = cnt (o : Int) i + if takes (o : Int) i then 1 else 0 := rfl
           rw [this, htk]; rfl
          rw [htk] at ht
          have HSU := Lib.hid hsucc
          have HFV := Lib.hid (show fullX (o : Int) (words) i = dflt i by unfold fullX; rw [htk]; rfl)
          clear hsucc htk hc0 hf0
          generalize plc i = pl at *
          go_wp2
          exact ⟨⟨i + 1, f, by simp, by rw [HSU.out], by omega, HN.out, HK.out, HP.out, fun k hk => (by
           by_cases e : k < i
           ·exact HLO.out k e
           ·rw [show k = i by omega, HFV.out]; exact HHI.out i (Nat.le_refl _)), fun k hk => HHI.out k (by omega)⟩, by simp [intOf]; omega⟩
        ·have hi6 : i = 6 := by omega
         subst hi6
         have hfin : (tcells f) = strs (full (o : Int) m words) := by
          unfold tcells strs full
          rw [List.map_map]
          apply List.map_congr_left
          intro k hk
          have hk6 : k < 6 := by simpa using hk
          show Value.string (ofL (f k)) = Value.string (ofL (fullAt (o : Int) m words k))
          rw [HLO.out k hk6, HFULL.out k hk6, Hwx.out]
         have HFIN := Lib.hid hfin
         have HG := Lib.hid HN.out.grown
         clear hlt hfin
         go_wp2
         go_ret2
         refine ⟨⟨_, rfl, strs_at HK.out HFIN.out⟩, HG.out⟩
      ·have heq : ((words.length : Int) == (cnt (o : Int) 6 : Int) - 1) = false := by simp; omega
       go_upto_region 29 with (fail)
       clear heq
       have hob := Lib.hid (fun b hb => (own_lt HN.out.own b hb).1)
       go_upto_region 31 with (first
        | (go_at_call 92; refine (places_c _).mono ?_; rintro e w4 ⟨gq, rfl, hgq, hP4, hb4⟩; have HN4 := Lib.hid (HN.out.goes hb4); have hs4 := hb4.size; clear hgq hP4 hb4)
        | (refine wpList_make_texts2 rfl _ _ rfl rfl rfl ?_; intro ge hge w5 hblk5 hb5 hlt5; have HN5 := Lib.hid (HN4.out.goes hb5); have HGE := Lib.hid (show w.heap.size ≤ ge ∧ ∀ b, Value.ownBlock (Value.slice (some ⟨g0, 0, none⟩) words.length cap0) = some b → b < ge from ⟨by rw [hge]; exact HN4.out.grown.size, fun b hb => by have := hob.out b hb; rw [hge]; omega⟩); have HK5 := Lib.hid hblk5; clear hge hblk5 hb5 hlt5))
       clear hs4
       go_upto_region 32 with (first
        | (go_at_call 93; refine (defaults_c _).mono ?_; rintro e w6 ⟨gd, rfl, hgd, hD6, hb6⟩; have HN6 := Lib.hid (HN5.out.goes hb6); have HK6 := Lib.hid (blk_below HK5.out hb6); have HD6 := Lib.hid hD6; clear hgd hD6 hb6)
        | (refine wpList_copy_splice rfl _ _ 50 50 rfl 9 Tryz.underlying50 (by kernel_rfl) (some ⟨ge, 0, none⟩) (some ⟨gd, 0, none⟩) 6 6 6 6 rfl rfl ge 0 (tcells fun _ => []) 9 HK6.out (tcells dflt) rfl (fun _ => ⟨rfl, _, rfl, fun j v hv => by rw [add_plain, blk_cell HD6.out j, List.getElem?_toArray]; exact hv⟩) (by decide) (tcells_one dflt) ge w6 (Below.refl _ _) (Nat.le_refl _) ?_; intro w7 hk7 hb7; have HK7 := Lib.hid hk7.out; have HN7 := Lib.hid (HN6.out.far hb7 HGE.out.2 HGE.out.1); clear hk7 hb7))
       go_wp2_with (go_at_call 92; refine (places_c _).mono ?_; rintro e w8 ⟨gp8, rfl, hgp8, hP8, hb8⟩; have HN8 := Lib.hid (HN7.out.goes hb8); have HK8 := Lib.hid (blk_below HK7.out hb8); have hne8 : ge ≠ gp8 := (by have := blk_lt HK7.out; omega); have hP8' := Lib.hid hP8; clear hgp8 hP8 hb8)
       have hL := Lib.hid (show NfL o w g0 base (Value.slice (some ⟨g0, 0, none⟩) words.length cap0) (words) ge gp8 (.int .i64 0) (.int .i64 0) w8 from ⟨0, dflt, rfl, rfl, by decide, HN8.out, (by have := HK8.out; simpa [splice_all] using this), hP8'.out, fun k hk => absurd hk (by omega), fun k _ => rfl⟩)
       clear HN HN4 HN5 HN6 HN7 HN8 HK5 HK6 HK7 HK8 hP8' HD6
       go_loopw [12, 14, 15, 102] (fun v12 _ _ v102 wr => NfL o w g0 base (Value.slice (some ⟨g0, 0, none⟩) words.length cap0) (words) ge gp8 v12 v102 wr) (fun _ _ _ v102 _ => (6 - (intOf v102).toNat))
       case atStart => exact hL.out
       case round =>
        obtain ⟨i, f, rfl, rfl, hi, hN, hK, hP, hlo, hhi⟩ := hrel
        clear hL
        have HN := Lib.hid hN
        have HK := Lib.hid hK
        have HP := Lib.hid hP
        have HLO := Lib.hid hlo
        have HHI := Lib.hid hhi
        clear hN hK hP hlo hhi
        by_cases hlt : i < 6
        ·have hc : wr.cell? ⟨gp8, i, none⟩ = some (.int .i64 (plc i)) := by rw [blk_cell HP.out i]; exact plcs_at i hlt
         have ht := HTK.out i hlt
         have hc0 : wr.cell? ⟨ge, i, none⟩ = some (.string (ofL (f i))) := by rw [blk_cell HK.out i, List.getElem?_toArray]; exact tcells_at f i hlt
         have hf0 : wr.frozen? ⟨ge, i, none⟩ = false := blk_frozen HK.out i
         have hi0 : (0 : Int) ≤ (i : Int) := by omega
         have hi1 : (i : Int) < 6 := by omega
         have hcl := cnt_le (o : Int) i
         cases htk : takes (o : Int) i with
         | true =>
          have hnx := cnt_mono (o : Int) (6 - (i + 1)) (i + 1)
          rw [show i + 1 + (6 - (i + 1)) = 6 by omega] at hnx
          have hsucc : cnt (o : Int) (i + 1) = cnt (o : Int) i + 1 := by
           have : cnt (o : Int) (i + 1) = cnt (o : Int) i + if takes (o : Int) i then 1 else 0 := rfl
           rw [this, htk]; rfl
          have hlen : cnt (o : Int) i < (words).length := by rw [HnC.out]; omega
          have hwne : (words) ≠ [] := fun h => by rw [h] at hlen; simp at hlen
          obtain ⟨g1, cap1, hv, _, ⟨cur1, hcur1⟩, hcell⟩ := own_cell HN.out.own hwne
          obtain ⟨tx, hcc, hfx⟩ : ∃ tx, wr.cell? ⟨g1, cnt (o : Int) i, none⟩ = some (.string (ofL tx)) ∧ tx = fullX (o : Int) (words) i := ⟨_, hcell _ hlen, by unfold fullX; rw [htk, if_pos rfl, List.getD_eq_getElem?_getD, List.getElem?_eq_getElem hlen]; rfl⟩
          have hge1 : g1 ≠ ge := by have := HGE.out.2 g1 (by rw [hv]; rfl); omega
          have HV := Lib.hid hv
          rw [htk] at ht
          have HNX := Lib.hid (fun (fv : Txt) (hfv : fv = fullX (o : Int) (words) i) => NfL.put (o := o) HN.out HK.out HP.out HGE.out.2 HGE.out.1 hne8 hlt HLO.out HHI.out fv hfv)
          have HFV := Lib.hid hfx
          have HSU := Lib.hid hsucc
          have hci0 : (0 : Int) ≤ (cnt (o : Int) i : Int) := by omega
          have hci1 : (cnt (o : Int) i : Int) < ((words).length : Int) := by omega
          clear hsucc hv hcell hwne hnx htk hcur1 hfx
          generalize (words).length = wl at *
          injection HV.out with e1 e2 e3; injection e1 with e1; injection e1 with e1 _ _; subst e1; clear e2 e3
          generalize cnt (o : Int) i = ci at *
          generalize plc i = pl at *
          go_wp2
          exact ⟨⟨i + 1, _, by simp, by rw [HSU.out]; simp, by omega, HNX.out tx HFV.out⟩, by simp [intOf]; omega⟩
         | false =>
          have hsucc : cnt (o : Int) (i + 1) = cnt (o : Int) i := by
           have : cnt (o : Int) (i + 1) = cnt (o : Int) i + if takes (o : Int) i then 1 else 0 := rfl
           rw [this, htk]; rfl
          rw [htk] at ht
          have HSU := Lib.hid hsucc
          have HFV := Lib.hid (show fullX (o : Int) (words) i = dflt i by unfold fullX; rw [htk]; rfl)
          clear hsucc htk hc0 hf0
          generalize plc i = pl at *
          go_wp2
          exact ⟨⟨i + 1, f, by simp, by rw [HSU.out], by omega, HN.out, HK.out, HP.out, fun k hk => (by
           by_cases e : k < i
           ·exact HLO.out k e
           ·rw [show k = i by omega, HFV.out]; exact HHI.out i (Nat.le_refl _)), fun k hk => HHI.out k (by omega)⟩, by simp [intOf]; omega⟩
        ·have hi6 : i = 6 := by omega
         subst hi6
         have hfin : (tcells f) = strs (full (o : Int) m words) := by
          unfold tcells strs full
          rw [List.map_map]
          apply List.map_congr_left
          intro k hk
          have hk6 : k < 6 := by simpa using hk
          show Value.string (ofL (f k)) = Value.string (ofL (fullAt (o : Int) m words k))
          rw [HLO.out k hk6, HFULL.out k hk6, Hwx.out]
         have HFIN := Lib.hid hfin
         have HG := Lib.hid HN.out.grown
         clear hlt hfin
         go_wp2
         go_ret2
         refine ⟨⟨_, rfl, strs_at HK.out HFIN.out⟩, HG.out⟩
     ·have hc1' : c2 = 1 := by
       have h1 := HCNT.out
       rw [← hmO] at h1
       rcases h50 with h | h <;> rw [h] at h1 <;> simp at h1 <;> omega
      subst hc1'
      have hA1 : (words.length : Int) + 1 ≤ (cnt (o : Int) 6 : Int) := by omega
      have hA2 : (cnt (o : Int) 6 : Int) ≤ (words.length : Int) + 1 := by omega
      have heq : ((words.length : Int) == (cnt (o : Int) 6 : Int) - 1) = true := by simp; omega
      rcases h50 with h5 | h0
      ·have HnC := Lib.hid (show (words ++ [[42]] : List Txt).length = cnt (o : Int) 6 by simp; omega)
       have Hwx := Lib.hid (show wordsX m words = words ++ [[42]] by unfold wordsX; rw [if_pos h5])
       have hd5 : decide (0 < Go.bits .and .i64 o2 128) = true := by
        rcases HMISS.out with h | ⟨_, _, h⟩ | ⟨h, _⟩
        ·rw [← hmO, h5] at h; cases h
        ·simpa using h
        ·rw [← hmO, h5] at h; cases h
       clear hn hmO h5
       go_upto_region 29 with (first
        | (go_at_call 93; refine (defaults_c _).mono ?_; rintro e w2 ⟨gd0, rfl, hgd, hD2, hb2⟩; have HN2 := Lib.hid (HN.out.goes hb2); have hcd : w2.cell? ⟨gd0, 5, none⟩ = some (.string (ofL [42])) := (by rw [blk_cell hD2 5]; rfl); have hs2 := hb2.size; clear hgd hD2 hb2)
        | (refine wpList_appN (HN2.out.goes (below_alloc (Below.refl _ _) (.cells #[.string (ofL [42])] 9))) (fun b hb => .inl hb) hbase rfl _ _ rfl rfl w2.heap.size 1 [42] rfl (blk_cell (blk_new _ _) 0) hwl ?_; intro v0 w3 hN3 hv0n; have HN3 := Lib.hid hN3; clear hN3 hv0n))
       clear HN
       have HN := HN3
       clear HN3 HN2 hcd hs2 hd5 heq
       have hob := Lib.hid (fun b hb => (own_lt HN.out.own b hb).1)
       go_upto_region 31 with (first
        | (go_at_call 92; refine (places_c _).mono ?_; rintro e w4 ⟨gq, rfl, hgq, hP4, hb4⟩; have HN4 := Lib.hid (HN.out.goes hb4); have hs4 := hb4.size; clear hgq hP4 hb4)
        | (refine wpList_make_texts2 rfl _ _ rfl rfl rfl ?_; intro ge hge w5 hblk5 hb5 hlt5; have HN5 := Lib.hid (HN4.out.goes hb5); have HGE := Lib.hid (show w.heap.size ≤ ge ∧ ∀ b, Value.ownBlock (v0) = some b → b < ge from ⟨by rw [hge]; exact HN4.out.grown.size, fun b hb => by have := hob.out b hb; rw [hge]; omega⟩); have HK5 := Lib.hid hblk5; clear hge hblk5 hb5 hlt5))
       clear hs4
       go_upto_region 32 with (first
        | (go_at_call 93; refine (defaults_c _).mono ?_; rintro e w6 ⟨gd, rfl, hgd, hD6, hb6⟩; have HN6 := Lib.hid (HN5.out.goes hb6); have HK6 := Lib.hid (blk_below HK5.out hb6); have HD6 := Lib.hid hD6; clear hgd hD6 hb6)
        | (refine wpList_copy_splice rfl _ _ 50 50 rfl 9 Tryz.underlying50 (by kernel_rfl) (some ⟨ge, 0, none⟩) (some ⟨gd, 0, none⟩) 6 6 6 6 rfl rfl ge 0 (tcells fun _ => []) 9 HK6.out (tcells dflt) rfl (fun _ => ⟨rfl, _, rfl, fun j v hv => by rw [add_plain, blk_cell HD6.out j, List.getElem?_toArray]; exact hv⟩) (by decide) (tcells_one dflt) ge w6 (Below.refl _ _) (Nat.le_refl _) ?_; intro w7 hk7 hb7; have HK7 := Lib.hid hk7.out; have HN7 := Lib.hid (HN6.out.far hb7 HGE.out.2 HGE.out.1); clear hk7 hb7))
       go_wp2_with (go_at_call 92; refine (places_c _).mono ?_; rintro e w8 ⟨gp8, rfl, hgp8, hP8, hb8⟩; have HN8 := Lib.hid (HN7.out.goes hb8); have HK8 := Lib.hid (blk_below HK7.out hb8); have hne8 : ge ≠ gp8 := (by have := blk_lt HK7.out; omega); have hP8' := Lib.hid hP8; clear hgp8 hP8 hb8)
       have hL := Lib.hid (show NfL o w g0 base (v0) (words ++ [[42]]) ge gp8 (.int .i64 0) (.int .i64 0) w8 from ⟨0, dflt, rfl, rfl, by decide, HN8.out, (by have := HK8.out; simpa [splice_all] using this), hP8'.out, fun k hk => absurd hk (by omega), fun k _ => rfl⟩)
       clear HN HN4 HN5 HN6 HN7 HN8 HK5 HK6 HK7 HK8 hP8' HD6
       go_loopw [12, 14, 15, 102] (fun v12 _ _ v102 wr => NfL o w g0 base (v0) (words ++ [[42]]) ge gp8 v12 v102 wr) (fun _ _ _ v102 _ => (6 - (intOf v102).toNat))
       case atStart => exact hL.out
       case round =>
        obtain ⟨i, f, rfl, rfl, hi, hN, hK, hP, hlo, hhi⟩ := hrel
        clear hL
        have HN := Lib.hid hN
        have HK := Lib.hid hK
        have HP := Lib.hid hP
        have HLO := Lib.hid hlo
        have HHI := Lib.hid hhi
        clear hN hK hP hlo hhi
        by_cases hlt : i < 6
        ·have hc : wr.cell? ⟨gp8, i, none⟩ = some (.int .i64 (plc i)) := by rw [blk_cell HP.out i]; exact plcs_at i hlt
         have ht := HTK.out i hlt
         have hc0 : wr.cell? ⟨ge, i, none⟩ = some (.string (ofL (f i))) := by rw [blk_cell HK.out i, List.getElem?_toArray]; exact tcells_at f i hlt
         have hf0 : wr.frozen? ⟨ge, i, none⟩ = false := blk_frozen HK.out i
         have hi0 : (0 : Int) ≤ (i : Int) := by omega
         have hi1 : (i : Int) < 6 := by omega
         have hcl := cnt_le (o : Int) i
         cases htk : takes (o : Int) i with
         | true =>
          have hnx := cnt_mono (o : Int) (6 - (i + 1)) (i + 1)
          rw [show i + 1 + (6 - (i + 1)) = 6 by omega] at hnx
          have hsucc : cnt (o : Int) (i + 1) = cnt (o : Int) i + 1 := by
           have : cnt (o : Int) (i + 1) = cnt (o : Int) i + if takes (o : Int) i then 1 else 0 := rfl
           rw [this, htk]; rfl
          have hlen : cnt (o : Int) i < (words ++ [[42]]).length := by rw [HnC.out]; omega
          have hwne : (words ++ [[42]]) ≠ [] := fun h => by rw [h] at hlen; simp at hlen
          obtain ⟨g1, cap1, hv, _, ⟨cur1, hcur1⟩, hcell⟩ := own_cell HN.out.own hwne
          obtain ⟨tx, hcc, hfx⟩ : ∃ tx, wr.cell? ⟨g1, cnt (o : Int) i, none⟩ = some (.string (ofL tx)) ∧ tx = fullX (o : Int) (words ++ [[42]]) i := ⟨_, hcell _ hlen, by unfold fullX; rw [htk, if_pos rfl, List.getD_eq_getElem?_getD, List.getElem?_eq_getElem hlen]; rfl⟩
          have hge1 : g1 ≠ ge := by have := HGE.out.2 g1 (by rw [hv]; rfl); omega
          have HV := Lib.hid hv
          rw [htk] at ht
          have HNX := Lib.hid (fun (fv : Txt) (hfv : fv = fullX (o : Int) (words ++ [[42]]) i) => NfL.put (o := o) HN.out HK.out HP.out HGE.out.2 HGE.out.1 hne8 hlt HLO.out HHI.out fv hfv)
          have HFV := Lib.hid hfx
          have HSU := Lib.hid hsucc
          have hci0 : (0 : Int) ≤ (cnt (o : Int) i : Int) := by omega
          have hci1 : (cnt (o : Int) i : Int) < ((words ++ [[42]]).length : Int) := by omega
          clear hsucc hv hcell hwne hnx htk hcur1 hfx
          generalize (words ++ [[42]]).length = wl at *
          have hv0 := HV.out; subst hv0
          generalize cnt (o : Int) i = ci at *
          generalize plc i = pl at *
          go_wp2
          exact ⟨⟨i + 1, _, by simp, by rw [HSU.out]; simp, by omega, HNX.out tx HFV.out⟩, by simp [intOf]; omega⟩
         | false =>
          have hsucc : cnt (o : Int) (i + 1) = cnt (o : Int) i := by
           have : cnt (o : Int) (i + 1) = cnt (o : Int) i + if takes (o : Int) i then 1 else 0 := rfl
           rw [this, htk]; rfl
          rw [htk] at ht
          have HSU := Lib.hid hsucc
          have HFV := Lib.hid (show fullX (o : Int) (words ++ [[42]]) i = dflt i by unfold fullX; rw [htk]; rfl)
          clear hsucc htk hc0 hf0
          generalize plc i = pl at *
          go_wp2
          exact ⟨⟨i + 1, f, by simp, by rw [HSU.out], by omega, HN.out, HK.out, HP.out, fun k hk => (by
           by_cases e : k < i
           ·exact HLO.out k e
           ·rw [show k = i by omega, HFV.out]; exact HHI.out i (Nat.le_refl _)), fun k hk => HHI.out k (by omega)⟩, by simp [intOf]; omega⟩
        ·have hi6 : i = 6 := by omega
         subst hi6
         have hfin : (tcells f) = strs (full (o : Int) m words) := by
          unfold tcells strs full
          rw [List.map_map]
          apply List.map_congr_left
          intro k hk
          have hk6 : k < 6 := by simpa using hk
          show Value.string (ofL (f k)) = Value.string (ofL (fullAt (o : Int) m words k))
          rw [HLO.out k hk6, HFULL.out k hk6, Hwx.out]
         have HFIN := Lib.hid hfin
         have HG := Lib.hid HN.out.grown
         clear hlt hfin
         go_wp2
         go_ret2
         refine ⟨⟨_, rfl, strs_at HK.out HFIN.out⟩, HG.out⟩
      ·have HnC := Lib.hid (show ([48] :: words : List Txt).length = cnt (o : Int) 6 by simp; omega)
       have Hwx := Lib.hid (show wordsX m words = [48] :: words by unfold wordsX; rw [if_neg (by rw [h0]; decide), if_pos h0])
       obtain ⟨hd5, hd2⟩ : decide (0 < Go.bits .and .i64 o2 128) = false ∧ decide (0 < Go.bits .and .i64 o2 2) = true := by
        rcases HMISS.out with h | ⟨h, _⟩ | ⟨_, _, h, h'⟩
        ·rw [← hmO, h0] at h; cases h
        ·rw [← hmO, h0] at h; cases h
        ·exact ⟨by simpa using h', by simpa using h⟩
       clear hn hmO h0
       go_upto_region 29 with (first
        | (go_at_call 93; refine (defaults_c _).mono ?_; rintro e w2 ⟨gd0, rfl, hgd, hD2, hb2⟩; have HN2 := Lib.hid (HN.out.goes hb2); have hcd : w2.cell? ⟨gd0, 0, none⟩ = some (.string (ofL [48])) := (by rw [blk_cell hD2 0]; rfl); have hs2 := hb2.size; clear hgd hD2 hb2)
        | (refine wpList_preN (HN2.out.goes (below_alloc (Below.refl _ _) (.cells #[.string (ofL [48])] 9))) hbase rfl _ _ rfl w2.heap.size HN2.out.grown.size [48] rfl (blk_new _ _) rfl hwne hwl ?_; intro v0 w3 hN3 hv0n; have HN3 := Lib.hid hN3; clear hN3 hv0n))
       clear HN
       have HN := HN3
       clear HN3 HN2 hcd hs2 hd5 hd2 heq
       have hob := Lib.hid (fun b hb => (own_lt HN.out.own b hb).1)
       go_upto_region 31 with (first
        | (go_at_call 92; refine (places_c _).mono ?_; rintro e w4 ⟨gq, rfl, hgq, hP4, hb4⟩; have HN4 := Lib.hid (HN.out.goes hb4); have hs4 := hb4.size; clear hgq hP4 hb4)
        | (refine wpList_make_texts2 rfl _ _ rfl rfl rfl ?_; intro ge hge w5 hblk5 hb5 hlt5; have HN5 := Lib.hid (HN4.out.goes hb5); have HGE := Lib.hid (show w.heap.size ≤ ge ∧ ∀ b, Value.ownBlock (v0) = some b → b < ge from ⟨by rw [hge]; exact HN4.out.grown.size, fun b hb => by have := hob.out b hb; rw [hge]; omega⟩); have HK5 := Lib.hid hblk5; clear hge hblk5 hb5 hlt5))
       clear hs4
       go_upto_region 32 with (first
        | (go_at_call 93; refine (defaults_c _).mono ?_; rintro e w6 ⟨gd, rfl, hgd, hD6, hb6⟩; have HN6 := Lib.hid (HN5.out.goes hb6); have HK6 := Lib.hid (blk_below HK5.out hb6); have HD6 := Lib.hid hD6; clear hgd hD6 hb6)
        | (refine wpList_copy_splice rfl _ _ 50 50 rfl 9 Tryz.underlying50 (by kernel_rfl) (some ⟨ge, 0, none⟩) (some ⟨gd, 0, none⟩) 6 6 6 6 rfl rfl ge 0 (tcells fun _ => []) 9 HK6.out (tcells dflt) rfl (fun _ => ⟨rfl, _, rfl, fun j v hv => by rw [add_plain, blk_cell HD6.out j, List.getElem?_toArray]; exact hv⟩) (by decide) (tcells_one dflt) ge w6 (Below.refl _ _) (Nat.le_refl _) ?_; intro w7 hk7 hb7; have HK7 := Lib.hid hk7.out; have HN7 := Lib.hid (HN6.out.far hb7 HGE.out.2 HGE.out.1); clear hk7 hb7))
       go_wp2_with (go_at_call 92; refine (places_c _).mono ?_; rintro e w8 ⟨gp8, rfl, hgp8, hP8, hb8⟩; have HN8 := Lib.hid (HN7.out.goes hb8); have HK8 := Lib.hid (blk_below HK7.out hb8); have hne8 : ge ≠ gp8 := (by have := blk_lt HK7.out; omega); have hP8' := Lib.hid hP8; clear hgp8 hP8 hb8)
       have hL := Lib.hid (show NfL o w g0 base (v0) ([48] :: words) ge gp8 (.int .i64 0) (.int .i64 0) w8 from ⟨0, dflt, rfl, rfl, by decide, HN8.out, (by have := HK8.out; simpa [splice_all] using this), hP8'.out, fun k hk => absurd hk (by omega), fun k _ => rfl⟩)
       clear HN HN4 HN5 HN6 HN7 HN8 HK5 HK6 HK7 HK8 hP8' HD6
       go_loopw [12, 14, 15, 102] (fun v12 _ _ v102 wr => NfL o w g0 base (v0) ([48] :: words) ge gp8 v12 v102 wr) (fun _ _ _ v102 _ => (6 - (intOf v102).toNat))
       case atStart => exact hL.out
       case round =>
        obtain ⟨i, f, rfl, rfl, hi, hN, hK, hP, hlo, hhi⟩ := hrel
        clear hL
        have HN := Lib.hid hN
        have HK := Lib.hid hK
        have HP := Lib.hid hP
        have HLO := Lib.hid hlo
        have HHI := Lib.hid hhi
        clear hN hK hP hlo hhi
        by_cases hlt : i < 6
        ·have hc : wr.cell? ⟨gp8, i, none⟩ = some (.int .i64 (plc i)) := by rw [blk_cell HP.out i]; exact plcs_at i hlt
         have ht := HTK.out i hlt
         have hc0 : wr.cell? ⟨ge, i, none⟩ = some (.string (ofL (f i))) := by rw [blk_cell HK.out i, List.getElem?_toArray]; exact tcells_at f i hlt
         have hf0 : wr.frozen? ⟨ge, i, none⟩ = false := blk_frozen HK.out i
         have hi0 : (0 : Int) ≤ (i : Int) := by omega
         have hi1 : (i : Int) < 6 := by omega
         have hcl := cnt_le (o : Int) i
         cases htk : takes (o : Int) i with
         | true =>
          have hnx := cnt_mono (o : Int) (6 - (i + 1)) (i + 1)
          rw [show i + 1 + (6 - (i + 1)) = 6 by omega] at hnx
          have hsucc : cnt (o : Int) (i + 1) = cnt (o : Int) i + 1 := by
           have : cnt (o : Int) (i + 1) = cnt (o : Int) i + if takes (o : Int) i then 1 else 0 := rfl
           rw [this, htk]; rfl
          have hlen : cnt (o : Int) i < ([48] :: words).length := by rw [HnC.out]; omega
          have hwne : ([48] :: words) ≠ [] := fun h => by rw [h] at hlen; simp at hlen
          obtain ⟨g1, cap1, hv, _, ⟨cur1, hcur1⟩, hcell⟩ := own_cell HN.out.own hwne
          obtain ⟨tx, hcc, hfx⟩ : ∃ tx, wr.cell? ⟨g1, cnt (o : Int) i, none⟩ = some (.string (ofL tx)) ∧ tx = fullX (o : Int) ([48] :: words) i := ⟨_, hcell _ hlen, by unfold fullX; rw [htk, if_pos rfl, List.getD_eq_getElem?_getD, List.getElem?_eq_getElem hlen]; rfl⟩
          have hge1 : g1 ≠ ge := by have := HGE.out.2 g1 (by rw [hv]; rfl); omega
          have HV := Lib.hid hv
          rw [htk] at ht
          have HNX := Lib.hid (fun (fv : Txt) (hfv : fv = fullX (o : Int) ([48] :: words) i) => NfL.put (o := o) HN.out HK.out HP.out HGE.out.2 HGE.out.1 hne8 hlt HLO.out HHI.out fv hfv)
          have HFV := Lib.hid hfx
          have HSU := Lib.hid hsucc
          have hci0 : (0 : Int) ≤ (cnt (o : Int) i : Int) := by omega
          have hci1 : (cnt (o : Int) i : Int) < (([48] :: words).length : Int) := by omega
          clear hsucc hv hcell hwne hnx htk hcur1 hfx
          generalize ([48] :: words).length = wl at *
          have hv0 := HV.out; subst hv0
          generalize cnt (o : Int) i = ci at *
          generalize plc i = pl at *
          go_wp2
          exact ⟨⟨i + 1, _, by simp, by rw [HSU.out]; simp, by omega, HNX.out tx HFV.out⟩, by simp [intOf]; omega⟩
         | false =>
          have hsucc : cnt (o : Int) (i + 1) = cnt (o : Int) i := by
           have : cnt (o : Int) (i + 1) = cnt (o : Int) i + if takes (o : Int) i then 1 else 0 := rfl
           rw [this, htk]; rfl
          rw [htk] at ht
          have HSU := Lib.hid hsucc
          have HFV := Lib.hid (show fullX (o : Int) ([48] :: words) i = dflt i by unfold fullX; rw [htk]; rfl)
          clear hsucc htk hc0 hf0
          generalize plc i = pl at *
          go_wp2
          exact ⟨⟨i + 1, f, by simp, by rw [HSU.out], by omega, HN.out, HK.out, HP.out, fun k hk => (by
           by_cases e : k < i
           ·exact HLO.out k e
           ·rw [show k = i by omega, HFV.out]; exact HHI.out i (Nat.le_refl _)), fun k hk => HHI.out k (by omega)⟩, by simp [intOf]; omega⟩
        ·have hi6 : i = 6 := by omega
         subst hi6
         have hfin : (tcells f) = strs (full (o : Int) m words) := by
          unfold tcells strs full
          rw [List.map_map]
          apply List.map_congr_left
          intro k hk
          have hk6 : k < 6 := by simpa using hk
          show Value.string (ofL (f k)) = Value.string (ofL (fullAt (o : Int) m words k))
          rw [HLO.out k hk6, HFULL.out k hk6, Hwx.out]
         have HFIN := Lib.hid hfin
         have HG := Lib.hid HN.out.grown
         clear hlt hfin
         go_wp2
         go_ret2
         refine ⟨⟨_, rfl, strs_at HK.out HFIN.out⟩, HG.out⟩
end Go.Proofs.YtcjdideliifkhaaGreatDoor
