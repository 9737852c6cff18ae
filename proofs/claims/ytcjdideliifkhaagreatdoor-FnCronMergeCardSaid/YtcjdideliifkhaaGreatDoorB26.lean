import Derived.Test.YtcjdideliifkhaaGreatDoorB25
set_option maxRecDepth 100000
set_option maxHeartbeats 16000000
namespace Go.Proofs.YtcjdideliifkhaaGreatDoor
open Go.RowKit Go.Proofs.YtcjdideliifkhaaGreatDoorW.PrintWords Go.Proofs.YtcjdideliifkhaaGreatDoorW.PrintLast Go.Proofs.YtcjdideliifkhaaGreatDoorW.PrintMore PFnCronTextAfterAnywhere
set_option linter.unusedVariables false
set_option linter.unusedSimpArgs false
structure CMean where
 every : Bool
 delay : Int
 F : CF
 utc : Bool
def CMean.cells (m : CMean) : List Value := mcells m.every m.delay m.F m.utc
def CMean.zero : CMean := ⟨false, 0, CF.zero, false⟩
theorem CMean.cells_len (m : CMean) : m.cells.length = 387 := mcells_len _ _ _ _
def MBlk (w : World) (b : Nat) (m : CMean) : Prop := w.heap[b]? = some (.cells m.cells.toArray 40 (0, 0))
theorem MBlk.lt {w : World} {b : Nat} {m : CMean} (h : MBlk w b m) : b < w.heap.size := blk_lt h
theorem MBlk.below {w w' : World} {b : Nat} {m : CMean} (h : MBlk w b m) (hb : Below w.heap.size w w') : MBlk w' b m := blk_below h hb
theorem MBlk.range {w : World} {b : Nat} {m : CMean} (h : MBlk w b m) : w.rangeAt b 0 m.cells := fun j v hv => by
 rw [Nat.zero_add, blk_cell h j, List.getElem?_toArray]; exact hv
theorem MBlk.there {w : World} {b : Nat} {m : CMean} (h : MBlk w b m) : w.there b 0 387 := fun j hj => by
 rw [Nat.zero_add, blk_cell h j, List.getElem?_toArray]
 exact ⟨by rw [List.getElem?_eq_getElem (by rw [CMean.cells_len]; exact hj)]; rfl, blk_frozen h _⟩
theorem MBlk.all {w : World} {b : Nat} {m : CMean} (h : MBlk w b m) (m' : CMean) : MBlk (w.setCells b 0 m'.cells.toArray.toList) b m' := by
 have := setCells_heap2 b 40 m'.cells 0 w m.cells h (by rw [CMean.cells_len, CMean.cells_len]; omega)
 rw [List.drop_of_length_le (by rw [CMean.cells_len, CMean.cells_len]; omega)] at this
 simpa [MBlk] using this
theorem all_mcells (m : CMean) : m.cells.toArray.all (·.oneCell') = true := all_oneCell_toArray fun v hv => by
 unfold CMean.cells mcells at hv
 simp only [List.mem_cons, List.mem_append, List.not_mem_nil, or_false] at hv
 rcases hv with rfl | rfl | hv | rfl
 ·rfl
 ·rfl
 ·exact (Array.all_eq_true_iff_forall_mem.1 (all_fcells m.F)) v (by simpa using hv)
 ·rfl
theorem exec_alloc40 (ρ : Operand → Value) (op : Oper) (ho : op.op = .alloc 40) (W : World) : (execOp ρ op).run Tryz.prog W = .ok (.value (.pointer (some ⟨W.heap.size, 0, none⟩))) (W.alloc (.cells CMean.zero.cells.toArray 40)) := by
 unfold execOp
 rw [ho]
 kernel_rfl
theorem wpList_alloc_mean {ops : Array Oper} {rest : List Oper} {op : Oper} {a : Act} {w : World} {Q : Exit → Act → World → Prop} (hgd : op.guard = none) (ho : op.op = .alloc 40)
  (h : ∀ g, g = w.heap.size → ∀ w1, MBlk w1 g CMean.zero → Below w.heap.size w w1 → g < w1.heap.size → wpList Tryz.prog ops Q rest (a.put op.dst (.pointer (some ⟨g, 0, none⟩))) w1) : wpList Tryz.prog ops Q (op :: rest) a w :=
 wpList_plain hgd fun _ hK => by
  unfold Oper.wp
  rw [exec_alloc40 _ op ho w]
  have hb : MBlk (w.alloc (.cells CMean.zero.cells.toArray 40)) w.heap.size CMean.zero := blk_new w _
  exact hK _ _ (h _ rfl _ hb (below_alloc (Below.refl _ _) _) hb.lt)
theorem wpList_store_mean {ops : Array Oper} {rest : List Oper} {op : Oper} {a : Act} {w : World} {Q : Exit → Act → World → Prop} (hgd : op.guard = none) (x y : Operand) (ho : op.op = .store 40 x y)
  (b : Nat) (m m' : CMean) (hx : a.eval x = .pointer (some ⟨b, 0, none⟩)) (hy : a.eval y = .agg m'.cells.toArray) (hs : MBlk w b m)
  (h : ∀ w1, MBlk w1 b m' → (∀ B, B ≤ b → Below B w w1) → wpList Tryz.prog ops Q rest (a.put op.dst undef) w1) : wpList Tryz.prog ops Q (op :: rest) a w :=
 wpList_store_mid hgd 40 x y ho b 0 m'.cells.toArray hx hy (by rw [List.size_toArray, CMean.cells_len]; exact hs.there) (by rw [List.size_toArray, CMean.cells_len]; kernel_rfl) (all_mcells m')
  (h _ (hs.all m') (fun B hB => setCells_below b B hB _ 0 w w (Below.refl _ _)))
def begins (s t : Txt) : Bool := decide (t.length ≤ s.length) && (s.take t.length == t)
theorem begins_f (s : ByteArray) (t : Txt) : spec_cronBegins.f s (ofL t) = some (begins (toL s) t) := by
 unfold spec_cronBegins.f begins
 rw [ofL_size, toL_len]
 by_cases h : t.length ≤ s.size
 ·rw [if_pos (by omega), if_pos (by omega), if_pos (by omega), decide_eq_true h, Bool.true_and]
  congr 1
  rw [Int.toNat_natCast, extract_ofL, toList_toL, toList_toL, toL_ofL, toL_ofL, List.drop_zero]
 ·rw [if_neg (by omega), decide_eq_false h]; rfl
theorem wordsL_sum : ∀ (l : Txt) (p : Option Txt), ((wordsL p l).map List.length).sum ≤ (p.getD []).length + l.length ∧ (wordsL p l).length ≤ l.length + 1 := by
 intro l
 induction l with
 | nil => intro p; cases p <;> simp [wordsL]
 | cons x l ih =>
  intro p
  cases p with
  | none =>
   unfold wordsL
   split
   ·have := ih none; simp at this ⊢; omega
   ·have := ih (some [x]); simp at this ⊢; omega
  | some p =>
   unfold wordsL
   split
   ·have := ih none; simp at this ⊢; omega
   ·have := ih (some (p ++ [x])); simp at this ⊢; omega
theorem words_mem_len (l e : Txt) (h : e ∈ wordsL none l) : e.length ≤ l.length := by
 have h1 := (wordsL_sum l none).1
 have h2 := sum_mem _ _ (List.mem_map_of_mem (f := List.length) h)
 simp at h1; omega
theorem full_len (o m : Int) (ws : List Txt) (n : Nat) (hn : 1 ≤ n) (h : ∀ p ∈ ws, p.length ≤ n) : ∀ p ∈ full o m ws, p.length ≤ n := by
 intro p hp
 unfold full at hp
 obtain ⟨k, _, rfl⟩ := List.mem_map.1 hp
 unfold fullAt
 split
 ·by_cases c : nxt o m k < ws.length
  ·rw [List.getD_eq_getElem?_getD, List.getElem?_eq_getElem c]
   exact h _ (List.getElem_mem _)
  ·rw [List.getD_eq_getElem?_getD, List.getElem?_eq_none (by omega)]; simp
 ·unfold dflt; split <;> simpa using hn
def FieldsR (o : Int) (l : Txt) (m : CMean) : Prop :=
 foreign l = false ∧ wordsL none l ≠ [] ∧ ∃ mm, missN o (wordsL none l).length = some mm ∧ (∀ k (hk : k < (full o mm (wordsL none l)).length), FieldR (k : Int) (full o mm (wordsL none l))[k] (m.F k)) ∧ m.every = false ∧ m.utc = false
def PlainQ (R : CMean → Prop) (w : World) (e : Ending) (w' : World) : Prop :=
 (∃ (m : CMean) (v : Int), e = .returned (.tuple #[.agg m.cells.toArray, .int .i64 v]) ∧ 0 ≤ v ∧ (v = 1 → R m)) ∧ Below w.heap.size w w'
theorem plain_c0 (o : Nat) (ho : o < 512) (h2 : spec_CronTwoOptional.f (o : Int) = some false) (s : ByteArray) (hs : s.size ≤ 4294967200) (hat : begins (toL s) [64] = false) (w : World) :
  Calls Tryz.prog 23 #[.int .i64 (o : Int), .string s] w (PlainQ (FieldsR (o : Int) (toL s)) w) := by
 have hbeg := begins_f s [64]
 rw [hat] at hbeg
 obtain ⟨kf, hkf⟩ := (foreign_f s (by omega)).rounds
 have hkw := fun w => words_c s (by omega) w
 go_enter Tryz.func23, Tryz.ntmps23
 go_upto_region 1 with (refine wpList_alloc_mean rfl rfl ?_; intro g hg w1 hz hb hlt)
 subst hg
 have HB := Lib.hid hb
 have HZ := Lib.hid hz
 clear hb hz hlt
 cases hfo : foreign (toL s) with
 | true =>
  rw [hfo] at hkf
  go_wp2_with (first
   | (go_at_call 41; refine (spec_cronBegins.calls s (ofL [64]) false _ hbeg).mono ?_; rintro e w2 ⟨rfl, hb2⟩; have HB2 := Lib.hid (below_step HB.out hb2.below); have HZ2 := Lib.hid (HZ.out.below hb2.below); clear hb2)
   | (go_at_call 27; refine (spec_cronForeign.calls kf s true _ hkf).mono ?_; rintro e w3 ⟨rfl, hb3⟩; have HB3 := Lib.hid (below_step HB2.out hb3.below); have HZ3 := Lib.hid (HZ2.out.below hb3.below); have hz3 := HZ3.out; clear hb3)
   | (refine wpList_exec (.build 40 #[]) rfl rfl (.agg CMean.zero.cells.toArray) (by kernel_rfl) ?_)
   | (refine wpList_store_mean rfl _ _ rfl w.heap.size CMean.zero CMean.zero rfl rfl hz3 ?_; intro w4 g1 g2))
  exact bodyPost_ret (results_ct rfl _ _ _ 40 _ _ _ rfl g1 Tryz.underlying40 rfl (by rw [List.size_toArray, CMean.cells_len]; kernel_rfl)) rfl
   ⟨⟨CMean.zero, 2, rfl, by decide, fun h => by cases h⟩, HB3.out.trans (g2 _ (Nat.le_refl _))⟩
 | false =>
  rw [hfo] at hkf
  have hwl := (wordsL_sum (toL s) none).2
  rw [toL_len] at hwl
  have hwm := fun e h => words_mem_len (toL s) e h
  rw [toL_len] at hwm
  have HR0 := Lib.hid (fun (hne : wordsL none (toL s) ≠ []) mm (hmm : missN (o : Int) (wordsL none (toL s)).length = some mm) (F : CF) (hF : ∀ k (hk : k < (full (o : Int) mm (wordsL none (toL s))).length), FieldR (k : Int) (full (o : Int) mm (wordsL none (toL s)))[k] (F k)) =>
   (show FieldsR (o : Int) (toL s) ⟨false, 0, F, false⟩ from ⟨hfo, hne, mm, hmm, hF, rfl, rfl⟩))
  generalize wordsL none (toL s) = ws at *
  cases hmm : missN (o : Int) ws.length with
  | none =>
   go_wp2_with (first
    | (go_at_call 41; refine (spec_cronBegins.calls s (ofL [64]) false _ hbeg).mono ?_; rintro e w2 ⟨rfl, hb2⟩; have HB2 := Lib.hid (below_step HB.out hb2.below); have HZ2 := Lib.hid (HZ.out.below hb2.below); clear hb2)
    | (go_at_call 27; refine (spec_cronForeign.calls kf s false _ hkf).mono ?_; rintro e w3 ⟨rfl, hb3⟩; have HB3 := Lib.hid (below_step HB2.out hb3.below); have HZ3 := Lib.hid (HZ2.out.below hb3.below); clear hb3)
    | (go_at_call 43; refine (hkw _).mono ?_; rintro e w4 ⟨vw, rfl, hR4, hb4⟩; have HB4 := Lib.hid (below_step HB3.out hb4); have HZ4 := Lib.hid (HZ3.out.below hb4); have HS4 := Lib.hid (Strs.of hR4); clear hb4 hR4)
    | (go_at_call 44; refine (fill_c o ho h2 ws (by omega) vw _ HS4.out).mono ?_; intro e w5 hq; unfold FillQ at hq; rw [hmm] at hq; obtain ⟨rfl, hb5⟩ := hq; have HB5 := Lib.hid (below_step HB4.out hb5); have HZ5 := Lib.hid (HZ4.out.below hb5); have hz5 := HZ5.out; clear hb5)
    | (refine wpList_exec (.build 40 #[]) rfl rfl (.agg CMean.zero.cells.toArray) (by kernel_rfl) ?_)
    | (refine wpList_store_mean rfl _ _ rfl w.heap.size CMean.zero CMean.zero rfl rfl hz5 ?_; intro w6 g1 g2))
   exact bodyPost_ret (results_ct rfl _ _ _ 40 _ _ _ rfl g1 Tryz.underlying40 rfl (by rw [List.size_toArray, CMean.cells_len]; kernel_rfl)) rfl
    ⟨⟨CMean.zero, 0, rfl, by decide, fun h => by cases h⟩, HB5.out.trans (g2 _ (Nat.le_refl _))⟩
  | some mm =>
   have hlm : (ws.map ofL).length = ws.length := by simp
   by_cases hws : ws = []
   ·have hl0 : ((ws.length : Int) == 0) = true := by rw [hws]; rfl
    clear hlm hws
    go_wp2_with (first
    | (go_at_call 41; refine (spec_cronBegins.calls s (ofL [64]) false _ hbeg).mono ?_; rintro e w2 ⟨rfl, hb2⟩; have HB2 := Lib.hid (below_step HB.out hb2.below); have HZ2 := Lib.hid (HZ.out.below hb2.below); clear hb2)
    | (go_at_call 27; refine (spec_cronForeign.calls kf s false _ hkf).mono ?_; rintro e w3 ⟨rfl, hb3⟩; have HB3 := Lib.hid (below_step HB2.out hb3.below); have HZ3 := Lib.hid (HZ2.out.below hb3.below); clear hb3)
    | (go_at_call 43; refine (hkw _).mono ?_; rintro e w4 ⟨vw, rfl, hR4, hb4⟩; have HB4 := Lib.hid (below_step HB3.out hb4); have HZ4 := Lib.hid (HZ3.out.below hb4); have hsl : ∃ A c, vw = .slice A ws.length c := (by obtain ⟨A, c, e⟩ := (Strs.of hR4).isSlice; exact ⟨A, c, by rw [e]; simp⟩); obtain ⟨A4, c4, rfl⟩ := hsl; have HS4 := Lib.hid (Strs.of hR4); clear hb4 hR4)
    | (go_at_call 44; refine (fill_c o ho h2 ws (by omega) _ _ HS4.out).mono ?_; intro e w5 hq; unfold FillQ at hq; rw [hmm] at hq; obtain ⟨⟨vf, rfl, hs5⟩, hb5⟩ := hq; have HB5 := Lib.hid (below_step HB4.out hb5); have HZ5 := Lib.hid (HZ4.out.below hb5); have hz5 := HZ5.out; have HS5 := Lib.hid hs5; clear hb5 hs5)
    | (refine wpList_exec (.build 40 #[]) rfl rfl (.agg CMean.zero.cells.toArray) (by kernel_rfl) ?_)
    | (refine wpList_store_mean rfl _ _ rfl w.heap.size CMean.zero CMean.zero rfl rfl hz5 ?_; intro w6 g1 g2))
    exact bodyPost_ret (results_ct rfl _ _ _ 40 _ _ _ rfl g1 Tryz.underlying40 rfl (by rw [List.size_toArray, CMean.cells_len]; kernel_rfl)) rfl
     ⟨⟨CMean.zero, 2, rfl, by decide, fun h => by cases h⟩, HB5.out.trans (g2 _ (Nat.le_refl _))⟩
   ·have hl0 : ((ws.length : Int) == 0) = false := by
     simp; exact hws
    clear hlm
    have hf6 : (full (o : Int) mm ws).length = 6 := by simp [full]
    have hfs := full_len (o : Int) mm ws (s.size + 1) (by omega) (fun p hp => by have := hwm p hp; omega)
    have HFS := Lib.hid (fun p (hp : p ∈ full (o : Int) mm ws) => (show (ofL p).size ≤ 4294967296 by have := hfs p hp; rw [ofL_size]; omega))
    have HR1 := Lib.hid (HR0.out hws mm hmm)
    clear hfs hws
    go_upto_region 14 with (first
    | (go_at_call 41; refine (spec_cronBegins.calls s (ofL [64]) false _ hbeg).mono ?_; rintro e w2 ⟨rfl, hb2⟩; have HB2 := Lib.hid (below_step HB.out hb2.below); have HZ2 := Lib.hid (HZ.out.below hb2.below); clear hb2)
    | (go_at_call 27; refine (spec_cronForeign.calls kf s false _ hkf).mono ?_; rintro e w3 ⟨rfl, hb3⟩; have HB3 := Lib.hid (below_step HB2.out hb3.below); have HZ3 := Lib.hid (HZ2.out.below hb3.below); clear hb3)
    | (go_at_call 43; refine (hkw _).mono ?_; rintro e w4 ⟨vw, rfl, hR4, hb4⟩; have HB4 := Lib.hid (below_step HB3.out hb4); have HZ4 := Lib.hid (HZ3.out.below hb4); have hsl : ∃ A c, vw = .slice A ws.length c := (by obtain ⟨A, c, e⟩ := (Strs.of hR4).isSlice; exact ⟨A, c, by rw [e]; simp⟩); obtain ⟨A4, c4, rfl⟩ := hsl; have HS4 := Lib.hid (Strs.of hR4); clear hb4 hR4)
    | (go_at_call 44; refine (fill_c o ho h2 ws (by omega) _ _ HS4.out).mono ?_; intro e w5 hq; unfold FillQ at hq; rw [hmm] at hq; obtain ⟨⟨vf, rfl, hs5⟩, hb5⟩ := hq; have HB5 := Lib.hid (below_step HB4.out hb5); have HZ5 := Lib.hid (HZ4.out.below hb5); have hz5 := HZ5.out; have HS5 := Lib.hid hs5; clear hb5 hs5)
    | (go_at_call 45; refine (six_c (full (o : Int) mm ws) hf6 HFS.out _ _ HS5.out).mono ?_; rintro e w6 ⟨⟨F, v, rfl, hv0, hF⟩, hb6⟩; have HB6 := Lib.hid (below_step HB5.out hb6); have HZ6 := Lib.hid (HZ5.out.below hb6); have HF := Lib.hid hF; clear hb6 hF)
    | (refine wpList_alloc_six rfl rfl ?_; intro g9 hg9 w7 hz7 hb7 hlt7; have HB7 := Lib.hid hb7; have HG9 := Lib.hid hg9; clear hb7 hg9 hlt7)
    | (refine wpList_store_six rfl _ _ rfl g9 CF.zero F rfl rfl hz7 ?_; intro w8 hf8 hb8; have HW8 := Lib.hid (HB7.out.trans (hb8 _ (by rw [HG9.out]; exact Nat.le_refl _))); have HB8 := Lib.hid (below_step HB6.out HW8.out); have HZ8 := Lib.hid (HZ6.out.below HW8.out); have hr8 := hf8.range; have hz8 := HZ8.out; clear hb8 hz7))
    go_wp2_with (first
    | (refine wpList_load_mid rfl 38 (.tmp 9) rfl g9 0 rfl (fcells F) _ hr8 Tryz.underlying38 rfl (by rw [fcells_len]; kernel_rfl) ?_)
    | (refine wpList_exec (.build 40 #[(2, .tmp 44)]) rfl rfl (.agg (CMean.mk false 0 F false).cells.toArray) (by kernel_rfl) ?_)
    | (refine wpList_store_mean rfl _ _ rfl w.heap.size CMean.zero (CMean.mk false 0 F false) rfl rfl hz8 ?_; intro w9 g1 g2))
    exact bodyPost_ret (results_ct rfl _ _ _ 40 _ _ _ rfl g1 Tryz.underlying40 rfl (by rw [List.size_toArray, CMean.cells_len]; kernel_rfl)) rfl
     ⟨⟨CMean.mk false 0 F false, v, rfl, hv0, fun h => HR1.out F (HF.out h)⟩, HB8.out.trans (g2 _ (Nat.le_refl _))⟩
def describedL (l : Txt) : Txt :=
 if l = [64, 121, 101, 97, 114, 108, 121] then [48, 32, 48, 32, 49, 32, 49, 32, 42] else if l = [64, 97, 110, 110, 117, 97, 108, 108, 121] then [48, 32, 48, 32, 49, 32, 49, 32, 42]
 else if l = [64, 109, 111, 110, 116, 104, 108, 121] then [48, 32, 48, 32, 49, 32, 42, 32, 42] else if l = [64, 119, 101, 101, 107, 108, 121] then [48, 32, 48, 32, 42, 32, 42, 32, 48]
 else if l = [64, 100, 97, 105, 108, 121] then [48, 32, 48, 32, 42, 32, 42, 32, 42] else if l = [64, 109, 105, 100, 110, 105, 103, 104, 116] then [48, 32, 48, 32, 42, 32, 42, 32, 42]
 else if l = [64, 104, 111, 117, 114, 108, 121] then [48, 32, 42, 32, 42, 32, 42, 32, 42] else []
theorem described_f (s : ByteArray) : Ev (fun k => spec_CronDescribed.f k s) (ofL (describedL (toL s))) := by
 have hj1 : ∀ b : Bool, Ev (fun k => spec_CronDescribed.j1 k s b) (if b = true then ofL [48, 32, 48, 32, 42, 32, 42, 32, 42] else if toL s = [64, 104, 111, 117, 114, 108, 121] then ofL [48, 32, 42, 32, 42, 32, 42, 32, 42] else ofL []) := fun b => by
  refine Ev.step (f := fun _ => some (if b = true then ofL [48, 32, 48, 32, 42, 32, 42, 32, 42] else if toL s = [64, 104, 111, 117, 114, 108, 121] then ofL [48, 32, 42, 32, 42, 32, 42, 32, 42] else ofL [])) (fun k => ?_) (Ev.now _)
  simp only [spec_CronDescribed.j1, toList_toL, apply_ite some]; rfl
 have hj0t : Ev (fun k => spec_CronDescribed.j0 k s true) (ofL [48, 32, 48, 32, 49, 32, 49, 32, 42]) := by
  refine Ev.step (f := fun _ => some (ofL [48, 32, 48, 32, 49, 32, 49, 32, 42])) (fun k => ?_) (Ev.now _)
  simp only [spec_CronDescribed.j0]; rw [if_pos trivial]; rfl
 unfold describedL
 by_cases h1 : toL s = [64, 121, 101, 97, 114, 108, 121]
 ·rw [if_pos h1]
  refine Ev.congr (fun k => ?_) hj0t
  unfold spec_CronDescribed.f; rw [toList_toL, if_pos h1, h1]; rfl
 rw [if_neg h1]
 by_cases h2 : toL s = [64, 97, 110, 110, 117, 97, 108, 108, 121]
 ·rw [if_pos h2]
  refine Ev.congr (fun k => ?_) hj0t
  unfold spec_CronDescribed.f; rw [toList_toL, if_neg h1, h2]; rfl
 rw [if_neg h2]
 have hf : ∀ r, Ev (fun k => spec_CronDescribed.j0 k s false) r → Ev (fun k => spec_CronDescribed.f k s) r := fun r hr => Ev.congr (fun k => by
  unfold spec_CronDescribed.f; rw [toList_toL, if_neg h1, show (toL s == [64, 97, 110, 110, 117, 97, 108, 108, 121]) = false by simpa using h2]) hr
 by_cases h3 : toL s = [64, 109, 111, 110, 116, 104, 108, 121]
 ·rw [if_pos h3]
  refine hf _ (Ev.step (f := fun _ => some (ofL [48, 32, 48, 32, 49, 32, 42, 32, 42])) (fun k => ?_) (Ev.now _))
  simp only [spec_CronDescribed.j0]; rw [if_neg (by decide), toList_toL, if_pos h3]; rfl
 rw [if_neg h3]
 by_cases h4 : toL s = [64, 119, 101, 101, 107, 108, 121]
 ·rw [if_pos h4]
  refine hf _ (Ev.step (f := fun _ => some (ofL [48, 32, 48, 32, 42, 32, 42, 32, 48])) (fun k => ?_) (Ev.now _))
  simp only [spec_CronDescribed.j0]; rw [if_neg (by decide), toList_toL, if_neg h3, if_pos h4]; rfl
 rw [if_neg h4]
 by_cases h5 : toL s = [64, 100, 97, 105, 108, 121]
 ·rw [if_pos h5]
  have := hj1 true
  rw [if_pos rfl] at this
  refine hf _ (Ev.step (fun k => ?_) this)
  simp only [spec_CronDescribed.j0]; rw [if_neg (by decide), toList_toL, if_neg h3, if_neg h4, if_pos h5, h5]; rfl
 rw [if_neg h5]
 by_cases h6 : toL s = [64, 109, 105, 100, 110, 105, 103, 104, 116]
 ·rw [if_pos h6]
  have := hj1 true
  rw [if_pos rfl] at this
  refine hf _ (Ev.step (fun k => ?_) this)
  simp only [spec_CronDescribed.j0]; rw [if_neg (by decide), toList_toL, if_neg h3, if_neg h4, if_neg h5, h6]; rfl
 rw [if_neg h6]
 have hfin : Ev (fun k => spec_CronDescribed.f k s) (if toL s = [64, 104, 111, 117, 114, 108, 121] then ofL [48, 32, 42, 32, 42, 32, 42, 32, 42] else ofL []) := by
  have := hj1 false
  rw [if_neg (by decide)] at this
  refine hf _ (Ev.step (fun k => ?_) this)
  simp only [spec_CronDescribed.j0]; rw [if_neg (by decide), toList_toL, if_neg h3, if_neg h4, if_neg h5, show (toL s == [64, 109, 105, 100, 110, 105, 103, 104, 116]) = false by simpa using h6]
 by_cases h7 : toL s = [64, 104, 111, 117, 114, 108, 121]
 ·rw [if_pos h7] at hfin ⊢; exact hfin
 ·rw [if_neg h7] at hfin ⊢; exact hfin
def trimR (l : Txt) : Txt := (l.reverse.dropWhile blank).reverse
def trimL (l : Txt) : Txt := trimR (l.dropWhile blank)
theorem trimR_snoc (l : Txt) (c : UInt8) : trimR (l ++ [c]) = if blank c then trimR l else l ++ [c] := by
 unfold trimR
 rw [List.reverse_append, List.reverse_singleton, List.singleton_append, List.dropWhile_cons]
 split
 ·rfl
 ·rw [List.reverse_cons, List.reverse_reverse]
theorem trim_l1 : ∀ (n : Nat) (s : ByteArray), s.size = n → s.size ≤ 4294967296 → Ev (fun k => spec_CronTrim.l1 k s) (ofL (trimR (toL s))) := by
 intro n
 induction n with
 | zero =>
  intro s hn hs
  have h0 : toL s = [] := List.eq_nil_of_length_eq_zero (by rw [toL_len]; omega)
  refine Ev.step (f := fun _ => some (ofL (trimR (toL s)))) (fun k => ?_) (Ev.now _)
  simp only [spec_CronTrim.l1]
  rw [if_pos (by rw [toList_toL]; exact h0), h0]
  congr 1
  exact (ofL_toL s).symm.trans (by rw [h0]; rfl)
 | succ n ih =>
  intro s hn hs
  have hne : toL s ≠ [] := fun h => by have := congrArg List.length h; rw [toL_len] at this; rw [List.length_nil] at this; omega
  rcases List.eq_nil_or_concat (toL s) with h | ⟨l, c, hl⟩
  ·exact absurd h hne
  ·rw [List.concat_eq_append] at hl
   have hll : l.length = n := by have := congrArg List.length hl; rw [toL_len] at this; simp at this; omega
   have hw : wrap64 ((s.size : Int) - 1) = (n : Int) := by unfold wrap64; omega
   have hdr : (toL s).drop n = [c] := by rw [hl, ← hll]; simp
   obtain ⟨a1, a2, a3, a4⟩ := at_drop hdr
   have hext : s.extract 0 n = ofL l := by rw [extract_ofL, hl, ← hll]; simp
   rw [hl, trimR_snoc]
   cases hb : blank c with
   | true =>
    rw [if_pos rfl]
    refine Ev.step (fun k => ?_) (ih (ofL l) (by rw [ofL_size]; exact hll) (by rw [ofL_size, hll]; omega))
    simp only [spec_CronTrim.l1]
    rw [if_neg (by rw [toList_toL]; exact hne), hw, if_pos (by omega), if_pos (by omega), a2, blank_f, hb, Option.bind_some, if_pos rfl, if_pos (by omega), Int.toNat_natCast, hext]
   | false =>
    rw [if_neg (by decide)]
    refine Ev.step (f := fun _ => some (ofL (l ++ [c]))) (fun k => ?_) (Ev.now _)
    simp only [spec_CronTrim.l1]
    rw [if_neg (by rw [toList_toL]; exact hne), hw, if_pos (by omega), if_pos (by omega), a2, blank_f, hb, Option.bind_some, if_neg (by decide), ← hl, ofL_toL]
theorem trim_l0 : ∀ (n : Nat) (s : ByteArray), s.size = n → s.size ≤ 4294967296 → Ev (fun k => spec_CronTrim.l0 k s) (ofL (trimL (toL s))) := by
 intro n
 induction n with
 | zero =>
  intro s hn hs
  have h0 : toL s = [] := List.eq_nil_of_length_eq_zero (by rw [toL_len]; omega)
  have := trim_l1 0 s hn hs
  unfold trimL
  rw [h0] at this ⊢
  refine Ev.step (fun k => ?_) (Ev.step (g := fun k => spec_CronTrim.j1 k s) (f := fun k => spec_CronTrim.l1 k s) (fun k => by simp only [spec_CronTrim.j1]) this)
  simp only [spec_CronTrim.l0]
  rw [if_pos (by rw [toList_toL]; exact h0)]
 | succ n ih =>
  intro s hn hs
  cases hl : toL s with
  | nil => have := congrArg List.length hl; rw [toL_len] at this; rw [List.length_nil] at this; omega
  | cons c t =>
   have hll : t.length = n := by have := congrArg List.length hl; rw [toL_len] at this; simp at this; omega
   obtain ⟨a1, a2, a3, a4⟩ := at_drop (s := s) (i := 0) (by rw [List.drop_zero]; exact hl)
   have a2' : bt s 0 = (c.toNat : Int) := a2
   have hne : ¬ s.toList = [] := by rw [toList_toL, hl]; simp
   unfold trimL
   rw [List.dropWhile_cons]
   cases hb : blank c with
   | true =>
    rw [if_pos rfl]
    refine Ev.step (fun k => ?_) (ih (ofL t) (by rw [ofL_size]; exact hll) (by rw [ofL_size, hll]; omega))
    simp only [spec_CronTrim.l0]
    rw [if_neg hne, if_pos (by omega), a2', blank_f, hb, Option.bind_some, if_pos rfl, if_pos (by omega), ext_all hl]
   | false =>
    rw [if_neg (by decide), ← hl]
    refine Ev.step (fun k => ?_) (Ev.step (g := fun k => spec_CronTrim.j1 k s) (f := fun k => spec_CronTrim.l1 k s) (fun k => by simp only [spec_CronTrim.j1]) (trim_l1 _ s rfl hs))
    simp only [spec_CronTrim.l0]
    rw [if_neg hne, if_pos (by omega), a2', blank_f, hb, Option.bind_some, if_neg (by decide)]
theorem trim_f (s : ByteArray) (hs : s.size ≤ 4294967296) : Ev (fun k => spec_CronTrim.f k s) (ofL (trimL (toL s))) := trim_l0 _ s rfl hs
def ZoneR (l : Txt) (utc : Bool) : Prop := ((l = [] ∨ l = [85, 84, 67]) ∧ utc = true) ∨ (l = [76, 111, 99, 97, 108] ∧ utc = false)
theorem zoneName_l (s : ByteArray) (hs : s.size ≤ 4294967296) : ∀ d i : Nat, i + d = s.size → 1 ≤ i → ∃ v, Ev (fun k => spec_CronZoneName.l0 k s (i : Int)) (false, v) ∧ (v = 0 ∨ v = 2) := by
 intro d
 induction d with
 | zero =>
  intro i hi h1
  refine ⟨2, Ev.step (f := fun _ => some (false, 2)) (fun k => ?_) (Ev.now _), .inr rfl⟩
  simp only [spec_CronZoneName.l0]; rw [if_neg (by omega)]
 | succ d ih =>
  intro i hi h1
  have hw : wrap64 ((i : Int) - 1) = (i : Int) - 1 := by unfold wrap64; omega
  have hw2 : wrap64 ((i : Int) + 1) = ((i + 1 : Nat) : Int) := by rw [wr1 (n := s.size) (by omega) (by omega) hs]; omega
  obtain ⟨v, hv, hv2⟩ := ih (i + 1) (by omega) (by omega)
  by_cases c1 : bt s ((i : Int) - 1) = 46
  ·by_cases c2 : bt s (i : Int) = 46
   ·refine ⟨0, Ev.step (f := fun _ => some (false, 0)) (fun k => ?_) (Ev.now _), .inl rfl⟩
    simp only [spec_CronZoneName.l0]
    rw [if_pos (by omega), hw, if_pos (by omega), if_pos (by omega), if_pos c1, if_pos (by omega), if_pos c2]
   ·refine ⟨v, Ev.step (fun k => ?_) hv, hv2⟩
    simp only [spec_CronZoneName.l0]
    rw [if_pos (by omega), hw, if_pos (by omega), if_pos (by omega), if_pos c1, if_pos (by omega), if_neg c2, hw2]
  ·refine ⟨v, Ev.step (fun k => ?_) hv, hv2⟩
   simp only [spec_CronZoneName.l0]
   rw [if_pos (by omega), hw, if_pos (by omega), if_pos (by omega), if_neg c1, hw2]
theorem zoneName_f (s : ByteArray) (hs : s.size ≤ 4294967296) : ∃ (u : Bool) (v : Int), Ev (fun k => spec_CronZoneName.f k s) (u, v) ∧ 0 ≤ v ∧ (v = 1 → ZoneR (toL s) u) := by
 have hj : Ev (fun k => spec_CronZoneName.j0 k s true) (true, 1) := Ev.step (f := fun _ => some (true, 1)) (fun k => by simp only [spec_CronZoneName.j0]; rw [if_pos trivial]) (Ev.now _)
 by_cases h1 : toL s = []
 ·exact ⟨true, 1, Ev.congr (fun k => by unfold spec_CronZoneName.f; rw [if_pos (by rw [toList_toL]; exact h1)]) hj, by decide, fun _ => .inl ⟨.inl h1, rfl⟩⟩
 by_cases h2 : toL s = [85, 84, 67]
 ·refine ⟨true, 1, Ev.congr (fun k => ?_) hj, by decide, fun _ => .inl ⟨.inr h2, rfl⟩⟩
  unfold spec_CronZoneName.f; rw [if_neg (by rw [toList_toL]; exact h1), toList_toL, h2]; rfl
 have hf : ∀ r, Ev (fun k => spec_CronZoneName.j0 k s false) r → Ev (fun k => spec_CronZoneName.f k s) r := fun r hr => Ev.congr (fun k => by
  unfold spec_CronZoneName.f; rw [if_neg (by rw [toList_toL]; exact h1), toList_toL, show (toL s == [85, 84, 67]) = false by simpa using h2]) hr
 by_cases h3 : toL s = [76, 111, 99, 97, 108]
 ·refine ⟨false, 1, hf _ (Ev.step (f := fun _ => some (false, 1)) (fun k => ?_) (Ev.now _)), by decide, fun _ => .inr ⟨h3, rfl⟩⟩
  simp only [spec_CronZoneName.j0]; rw [if_neg (by decide), if_pos (by rw [toList_toL]; exact h3)]
 have hpos : 0 < s.size := by
  rcases Nat.eq_zero_or_pos s.size with h | h
  ·exact absurd (List.eq_nil_of_length_eq_zero (by rw [toL_len]; exact h)) h1
  ·exact h
 by_cases c1 : bt s 0 = 47
 ·refine ⟨false, 0, hf _ (Ev.step (f := fun _ => some (false, 0)) (fun k => ?_) (Ev.now _)), by decide, fun h => by cases h⟩
  simp only [spec_CronZoneName.j0]; rw [if_neg (by decide), if_neg (by rw [toList_toL]; exact h3), if_pos (by omega), if_pos c1]
 by_cases c2 : bt s 0 = 92
 ·refine ⟨false, 0, hf _ (Ev.step (f := fun _ => some (false, 0)) (fun k => ?_) (Ev.now _)), by decide, fun h => by cases h⟩
  simp only [spec_CronZoneName.j0]; rw [if_neg (by decide), if_neg (by rw [toList_toL]; exact h3), if_pos (by omega), if_neg c1, if_pos c2]
 obtain ⟨v, hv, hv2⟩ := zoneName_l s hs (s.size - 1) 1 (by omega) (Nat.le_refl _)
 refine ⟨false, v, hf _ (Ev.step (fun k => ?_) hv), by omega, fun h => by omega⟩
 simp only [spec_CronZoneName.j0]; rw [if_neg (by decide), if_neg (by rw [toList_toL]; exact h3), if_pos (by omega), if_neg c1, if_neg c2]; rfl
def delayL (d : Int) : Int := if d < 1000000000 then 1000000000 else d / 1000000000 * 1000000000
theorem delay_f (d : Int) (h : d ≤ 4611686018427387904) : spec_CronDelay.f d = some (delayL d) := by
 unfold spec_CronDelay.f delayL
 by_cases c : d < 1000000000
 ·rw [if_pos c, if_pos c]
 ·rw [if_neg c, if_neg c, Int.tdiv_eq_ediv_of_nonneg (by omega)]
  congr 1
  unfold wrap64
  omega
theorem DurR_le {l : Txt} {d : Int} (h : DurR l d) : d ≤ 4611686018427387904 := by
 obtain ⟨neg, t, _, h⟩ := h
 rcases h with ⟨_, rfl⟩ | ⟨_, _, k, s, _, h2, rfl⟩
 ·decide
 ·cases neg <;> simp <;> omega
end Go.Proofs.YtcjdideliifkhaaGreatDoor
