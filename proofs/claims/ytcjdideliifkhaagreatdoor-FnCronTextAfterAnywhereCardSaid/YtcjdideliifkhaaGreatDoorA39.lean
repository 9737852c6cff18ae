import Derived.Test.YtcjdideliifkhaaGreatDoorA38
set_option maxRecDepth 100000
set_option maxHeartbeats 16000000
namespace Go.Proofs.YtcjdideliifkhaaGreatDoor
open Go.RowKit Go.Proofs.YtcjdideliifkhaaGreatDoorW.PrintWords Go.Proofs.YtcjdideliifkhaaGreatDoorW.PrintLast Go.Proofs.YtcjdideliifkhaaGreatDoorW.PrintMore
set_option linter.unusedVariables false
set_option linter.unusedSimpArgs false
def isComma (r : Nat) : Bool := r == 44
theorem spans_eq (s : ByteArray) (ha : foreign (toL s) = false) : ∀ (d f pos a : Nat) (acc : List (Nat × Nat)), pos + d = s.size → d ≤ f → a ≤ pos → (∀ e ∈ pieces 44 (((toL s).take pos).drop a) ((toL s).drop pos), e ≠ []) →
  ((Lib.closeSpans s (Lib.spansFromP isComma s f pos (if a < pos then some a else none) acc)).map fun x => s.extract x.1 x.2) = (acc.map fun x => s.extract x.1 x.2) ++ (pieces 44 (((toL s).take pos).drop a) ((toL s).drop pos)).map ofL := by
 intro d
 induction d with
 | zero =>
  intro f pos a acc hp hf hap hne
  have hps : pos = s.size := by omega
  subst hps
  have hd0 : (toL s).drop s.size = [] := List.drop_eq_nil_of_le (by rw [toL_len]; exact Nat.le_refl _)
  rw [hd0] at hne ⊢
  rw [Lib.spansFromP_end _ _ _ _ _ _ (by omega)]
  have h1 := hne (((toL s).take s.size).drop a) (by simp [pieces])
  have hlt : a < s.size := by
   rcases Nat.lt_or_ge a s.size with h | h
   ·exact h
   ·exfalso; apply h1; rw [List.drop_eq_nil_of_le (by rw [List.length_take, toL_len]; omega)]
  rw [if_pos hlt]
  unfold Lib.closeSpans
  simp only [pieces, List.map_append, List.map_cons, List.map_nil]
  rw [extract_ofL]
 | succ d ih =>
  intro f pos a acc hp hf hap hne
  have hlt : pos < s.size := by omega
  obtain ⟨f, rfl⟩ : ∃ g, f = g + 1 := ⟨f - 1, by omega⟩
  have hdr := byte_at s pos hlt
  have hc := foreign_at ha pos hlt
  have hdec := decode_ascii s pos hlt hc
  have hsn : a ≤ pos → ((toL s).take (pos + 1)).drop a = ((toL s).take pos).drop a ++ [s[pos]] := fun h => by
   rw [take_at s pos hlt, List.drop_append_of_le_length (by rw [List.length_take, toL_len]; omega)]
  have hnil : ((toL s).take (pos + 1)).drop (pos + 1) = [] := List.drop_eq_nil_of_le (by rw [List.length_take]; omega)
  rw [hdr] at hne ⊢
  have hun : ∀ st, Lib.spansFromP isComma s (f + 1) pos st acc = (if isComma s[pos].toNat then (match st with | some a => Lib.spansFromP isComma s f (pos + 1) none (acc ++ [(a, pos)]) | none => Lib.spansFromP isComma s f (pos + 1) none acc) else (match st with | some a => Lib.spansFromP isComma s f (pos + 1) (some a) acc | none => Lib.spansFromP isComma s f (pos + 1) (some pos) acc)) := fun st => by
   simp only [Lib.spansFromP, hlt, if_true, hdec]
   cases st <;> rfl
  rw [hun]
  by_cases h44 : s[pos] = 44
  ·have hcm : isComma (s[pos].toNat) = true := by rw [h44]; rfl
   rw [pieces, if_pos h44] at hne ⊢
   have h1 := hne _ (List.mem_cons_self ..)
   have hap' : a < pos := by
    rcases Nat.lt_or_ge a pos with h | h
    ·exact h
    ·exfalso; apply h1; rw [List.drop_eq_nil_of_le (by rw [List.length_take, toL_len]; omega)]
   have := ih f (pos + 1) (pos + 1) (acc ++ [(a, pos)]) (by omega) (by omega) (Nat.le_refl _) (fun e he => hne e (List.mem_cons_of_mem _ (by rw [hnil] at he; exact he)))
   rw [if_neg (Nat.lt_irrefl _), hnil] at this
   simp only [hcm, if_true, hap']
   rw [this]
   simp only [List.map_append, List.map_cons, List.map_nil, List.append_assoc, List.singleton_append]
   rw [extract_ofL]
  ·have hcm : isComma (s[pos].toNat) = false := by
    unfold isComma
    have : s[pos].toNat ≠ 44 := fun h => h44 (UInt8.toNat_inj.1 h)
    simpa using this
   rw [pieces, if_neg h44] at hne ⊢
   have := ih f (pos + 1) a acc (by omega) (by omega) (by omega) (by rw [hsn hap]; exact hne)
   rw [if_pos (by omega), hsn hap] at this
   rw [← this]
   by_cases hap' : a < pos
   ·simp only [hcm, hap', if_true]; simp
   ·have : a = pos := by omega
    subst this
    simp only [hcm]; simp
theorem fields_eq (s : ByteArray) (ha : foreign (toL s) = false) (hne : ∀ e ∈ pieces 44 [] (toL s), e ≠ []) : Lib.goFieldsP isComma s = (pieces 44 [] (toL s)).map ofL := by
 have := spans_eq s ha s.size s.size 0 0 [] (by omega) (Nat.le_refl _) (Nat.le_refl _) (by simpa using hne)
 rw [if_neg (by omega)] at this
 simpa [Lib.goFieldsP, Lib.spansOfP] using this
theorem comma_c (x : Nat) (W : World) : Calls Tryz.prog 95 #[.int .i32 (x : Int)] W fun e w' => e = .returned (.bool (isComma x)) ∧ ∃ q, w' = W.drewN q := by
 have h : ((x : Int) == 44) = isComma x := by unfold isComma; rw [Bool.eq_iff_iff]; simp; omega
 have H := Lib.hid h
 clear h
 go_enter Tryz.func95, Tryz.ntmps95
 go_wp2
 go_ret
 exact ⟨congrArg (fun b => Ending.returned (.bool b)) H.out, 0, rfl⟩
theorem comma_at (w : World) : PredAt Tryz.prog 95 #[] encR isComma w := fun W x _ => comma_c x W
theorem bits_zero : BitsOf 0 CSet.zero := ⟨by decide, fun i _ => by rw [Nat.zero_testBit]; rfl, by rw [Nat.zero_testBit]; rfl⟩
theorem bits_union {N M : Nat} {a b : CSet} (h : BitsOf N a) (k : BitsOf M b) : ∃ K : Nat, bits .or .u64 (N : Int) (M : Int) = (K : Int) ∧ BitsOf K (a.union b) := by
 rw [(bits_nat .u64 64 (by decide) wraps_u64 N M h.1 k.1).2]
 refine ⟨_, rfl, Nat.or_lt_two_pow (n := 64) h.1 k.1, fun i hi => ?_, ?_⟩
 ·rw [Nat.testBit_or, h.2.1 i hi, k.2.1 i hi]; rfl
 ·rw [Nat.testBit_or, h.2.2, k.2.2]; rfl
theorem fieldP_ne {kind : Int} : ∀ (ps : List Txt) (acc t : CSet), FieldP kind ps acc t → ∀ e ∈ ps, e ≠ [] := by
 intro ps
 induction ps with
 | nil => intro acc t _ e he; cases he
 | cons p ps ih =>
  intro acc t h e he
  obtain ⟨h1, one, h2, h3⟩ := h
  rcases List.mem_cons.1 he with rfl | he
  ·exact h1
  ·exact ih _ _ h3 e he
structure GfS (kind : Int) (w : World) (m : Option Nat) (v : Value) (ps : List ByteArray) (w' : World) : Prop where
 box : w'.heap[w.heap.size]? = some (.cells #[Value.int .u64 (low kind), .int .u64 (high kind), .map m] 121 (0, 0))
 names : NamesAt kind w' m
 row : Strs w' v ps
 below : Below w.heap.size w w'
theorem GfS.goes {kind : Int} {w : World} {m : Option Nat} {v : Value} {ps : List ByteArray} {w' w'' : World} (h : GfS kind w m v ps w') (hb : Below w'.heap.size w' w'') : GfS kind w m v ps w'' :=
 ⟨blk_below h.box hb, h.names.below hb, h.row.below hb, below_step h.below hb⟩
theorem NamesAt.bnd {kind : Int} {w : World} {m : Option Nat} (h : NamesAt kind w m) : BndAt kind w (.agg #[.int .u64 (low kind), .int .u64 (high kind), .map m]) := by
 refine ⟨m, rfl, ?_⟩
 rcases h with ⟨b, h1, h2, h3 | h3⟩ | ⟨h1, h2, h3⟩
 ·subst h3; exact .inl ⟨rfl, b, h1, h2⟩
 ·subst h3; exact .inr (.inl ⟨rfl, b, h1, h2⟩)
 ·exact .inr (.inr ⟨h2, h3, h1⟩)
def GfL (kind : Int) (w : World) (m : Option Nat) (v : Value) (ps : List Txt) (t : CSet) (v6 v16 : Value) (wr : World) : Prop :=
 ∃ (i N : Nat) (acc : CSet), v6 = .int .u64 (N : Int) ∧ v16 = .int .i64 (i : Int) ∧ i ≤ ps.length ∧ BitsOf N acc ∧ FieldP kind (ps.drop i) acc t ∧ GfS kind w m v (ps.map ofL) wr
theorem getField_c (kind : Int) (hk0 : 0 ≤ kind) (hk1 : kind ≤ 5) (s : ByteArray) (hs : s.size ≤ 4294960000) (ha : foreign (toL s) = false) (t : CSet) (ht : FieldR kind (toL s) t) (v : Value) (w : World) (hv : BndAt kind w v) :
  Calls Tryz.prog 58 #[.string s, v] w fun e w' => (∃ N : Nat, e = .returned (.tuple #[.int .u64 (N : Int), .nilIface]) ∧ BitsOf N t) ∧ Below w.heap.size w w' := by
 obtain ⟨m, rfl, hnm⟩ := hv.names
 clear hv
 unfold FieldR at ht
 have hmem := fun e h => pieces_mem_len 44 (toL s) e h
 have hasc := fun e h => pieces_ascii (c := 44) (e := e) ha h
 have hfe := fields_eq s ha (fieldP_ne _ _ _ ht)
 have hff := fun w => Tryz.strings_FieldsFunc 95 #[] (enters_of Tryz.func95 (by kernel_rfl) rfl) isComma s w (by omega) (comma_at w)
 rw [hfe] at hff
 rw [toL_len] at hmem
 have hplen := pieces_len 44 (toL s) []
 rw [toL_len] at hplen
 generalize pieces 44 [] (toL s) = ps at *
 have HFF := Lib.hid hff
 have HMEM := Lib.hid hmem
 have HASC := Lib.hid hasc
 have HT := Lib.hid ht
 have hstart : ∀ (wc w' : World) (v : Value), wc = w.alloc (.cells #[Value.int .u64 (low kind), .int .u64 (high kind), .map m] 121) → wc.heap.size ≤ wc.heap.size → w'.ownsRow wc.heap.size 9 1 v (ps.map ofL).length (List.map Value.string (ps.map ofL)) → Below wc.heap.size wc w' → GfL kind w m v ps t (.int .u64 0) (.int .i64 0) w' := fun wc w' v hwc _ hown hb => by
  subst hwc
  have hb1 : Below w.heap.size w (w.alloc (.cells #[Value.int .u64 (low kind), .int .u64 (high kind), .map m] 121)) := below_alloc (Below.refl _ _) _
  exact ⟨0, 0, CSet.zero, rfl, rfl, Nat.zero_le _, bits_zero, HT.out, blk_below (blk_new w _) hb, (hnm.below hb1).below hb, RowB.strs ⟨by simpa using hown, hb⟩, below_step hb1 hb⟩
 have HST := Lib.hid hstart
 clear hff hmem hasc ht hfe hstart hnm
 go_enter Tryz.func58, Tryz.ntmps58
 go_wp2_with (go_at_call 94; refine (HFF.out _).mono ?_; rintro e w2 ⟨A, rfl, hA1, hA2, hA3⟩; have hL := Lib.hid (HST.out _ _ _ rfl (Nat.le_refl _) hA2 hA3); clear hA1 hA2 hA3)
 have hpl : (ps.map ofL).length = ps.length := by simp
 generalize hnp : (ps.map ofL).length = np at *
 clear hnp
 subst hpl
 clear HST
 go_loopw [6, 16] (fun v6 v16 wr => GfL kind w m (.slice (some ⟨A, 0, none⟩) ps.length ps.length) ps t v6 v16 wr) (fun _ iv _ => ((ps.length : Int) - intOf iv).toNat)
 case atStart => exact hL.out
 case round =>
  obtain ⟨i, N, acc, rfl, rfl, hi, hN, hP, hS⟩ := hrel
  clear hL
  by_cases hlt : i < ps.length
  ·obtain ⟨A', c', e', hr⟩ := hS.row
   injection e' with e1 e2 e3
   subst e1 e3
   obtain ⟨ad, e4, hc⟩ := hr i (by simpa using hlt)
   injection e4 with e4
   subst e4
   replace hc : wr.cell? (Addr.add ⟨A, 0, none⟩ i) = some (.string (ofL ps[i])) := by rw [hc]; simp
   rw [add_plain] at hc
   have hmem : ps[i] ∈ ps := List.getElem_mem _
   have hsz := HMEM.out _ hmem
   have hac := HASC.out _ hmem
   have hdrop : ps.drop i = ps[i] :: ps.drop (i + 1) := List.drop_eq_getElem_cons hlt
   rw [hdrop] at hP
   obtain ⟨hne, one, hone, hP2⟩ := hP
   generalize ps[i] = p at *
   have hsz' : (ofL p).size ≤ 4294967000 := by rw [ofL_size]; omega
   have HRG := Lib.hid (fun w' (h : NamesAt kind w' m) => range_c kind hk0 hk1 (ofL p) hsz' hac one hone _ w' h.bnd)
   have HS := Lib.hid hS
   have HN := Lib.hid hN
   have HP2 := Lib.hid hP2
   have c0 := (blk_cell hS.box 0).trans (show _ = some (Value.int .u64 (low kind)) from rfl)
   have c1 := (blk_cell hS.box 1).trans (show _ = some (Value.int .u64 (high kind)) from rfl)
   have c2 := (blk_cell hS.box 2).trans (show _ = some (Value.map m) from rfl)
   have hu121 := Tryz.underlying121
   have hi0 : (0 : Int) ≤ (i : Int) := by omega
   have hi1 : (i : Int) < (ps.length : Int) := by omega
   clear hr e2 hmem hsz hac hdrop hne hone hP2 hS hN
   go_wp2_with (go_at_call 96; refine (HRG.out _ HS.out.names).mono ?_; rintro e w5 ⟨⟨M, rfl, hM⟩, hb5⟩; have HS5 := Lib.hid (HS.out.goes hb5); have HU := Lib.hid (bits_union HN.out hM); clear hb5 hM)
   obtain ⟨K, hK, hKB⟩ := HU.out
   exact ⟨⟨i + 1, K, acc.union one, congrArg (Value.int .u64) hK, by simp, by omega, hKB, HP2.out, HS5.out⟩, by simp [intOf]; omega⟩
  ·have hin : i = ps.length := by omega
   subst hin
   rw [List.drop_length] at hP
   have hta : t = acc := hP
   subst hta
   have HN := Lib.hid hN
   have HB := Lib.hid hS.below
   clear hP hN hS
   go_wp2
   go_ret2
   exact ⟨⟨N, rfl, HN.out⟩, HB.out⟩
open Go.RowKit Go.Proofs.YtcjdideliifkhaaGreatDoorW.PrintWords Go.Proofs.YtcjdideliifkhaaGreatDoorW.PrintLast Go.Proofs.YtcjdideliifkhaaGreatDoorW.PrintMore PFnCronTextAfterAnywhere
def plc (k : Nat) : Int := if k = 0 then 1 else if k = 1 then 4 else if k = 2 then 8 else if k = 3 then 16 else if k = 4 then 32 else 64
def opt1 (o : Int) : Int := if 0 < Go.bits .and .i64 o 2 then Go.bits .or .i64 o 1 else o
def opt2 (o : Int) : Int := if 0 < Go.bits .and .i64 (opt1 o) 128 then Go.bits .or .i64 (opt1 o) 64 else opt1 o
def cnt1 (o : Int) : Int := if 0 < Go.bits .and .i64 o 2 then 1 else 0
def cnt2 (o : Int) : Int := if 0 < Go.bits .and .i64 (opt1 o) 128 then cnt1 o + 1 else cnt1 o
def twoB (o : Int) : Bool := Go.bits .and .i64 o 2 != 0 && Go.bits .and .i64 o 128 != 0
def normOk (o : Int) : Bool :=
 twoB o || ((List.range 6).all (fun k => decide (0 < Go.bits .and .i64 (opt2 o) (plc k)) == takes o k) && cnt2 o == (if missO o < 0 then 0 else 1) &&
  (missO o == -1 || (missO o == 5 && takes o 5 && decide (0 < Go.bits .and .i64 (opt2 o) 128)) || (missO o == 0 && takes o 0 && decide (0 < Go.bits .and .i64 (opt2 o) 2) && !decide (0 < Go.bits .and .i64 (opt2 o) 128))))
theorem norm_ok : ((List.range 512).all fun o => normOk (o : Int)) = true := by kernel_rfl
theorem two_false (o : Int) (h : spec_CronTwoOptional.f o = some false) : twoB o = false := by
 unfold spec_CronTwoOptional.f at h
 unfold twoB
 split at h
 ·rename_i h1; rw [h1]; rfl
 ·rename_i h1
  have : (Go.bits .and .i64 o 128 != 0) = false := by simpa using h
  rw [this, Bool.and_false]
theorem norm_facts (o : Nat) (ho : o < 512) (h2 : spec_CronTwoOptional.f (o : Int) = some false) :
  (∀ k, k < 6 → (0 < Go.bits .and .i64 (opt2 o) (plc k) ↔ takes o k = true)) ∧ cnt2 o = (if missO o < 0 then 0 else 1) ∧
  (missO o = -1 ∨ (missO o = 5 ∧ takes o 5 = true ∧ 0 < Go.bits .and .i64 (opt2 o) 128) ∨ (missO o = 0 ∧ takes o 0 = true ∧ 0 < Go.bits .and .i64 (opt2 o) 2 ∧ ¬ 0 < Go.bits .and .i64 (opt2 o) 128)) := by
 have h := List.all_eq_true.1 norm_ok o (by simpa using ho)
 unfold normOk at h
 rw [two_false _ h2, Bool.false_or, Bool.and_eq_true, Bool.and_eq_true, List.all_eq_true] at h
 obtain ⟨⟨h3, h4⟩, h5⟩ := h
 refine ⟨fun k hk => ?_, by simpa using h4, ?_⟩
 ·have := h3 k (by simpa using hk)
  rw [beq_iff_eq] at this
  rw [← this, decide_eq_true_eq]
 ·simp only [Bool.or_eq_true, Bool.and_eq_true, beq_iff_eq, decide_eq_true_eq, Bool.not_eq_true', decide_eq_false_iff_not] at h5
  rcases h5 with (h5 | h5) | h5
  ·exact .inl h5
  ·exact .inr (.inl ⟨h5.1.1, h5.1.2, h5.2⟩)
  ·exact .inr (.inr ⟨h5.1.1.1, h5.1.1.2, h5.1.2, h5.2⟩)
def wordsX (m : Int) (words : List Txt) : List Txt := if m = 5 then words ++ [[42]] else if m = 0 then [48] :: words else words
def fullX (o : Int) (wx : List Txt) (k : Nat) : Txt := if takes o k then wx.getD (cnt o k) [] else dflt k
theorem cnt_mono (o : Int) : ∀ (d k : Nat), cnt o k ≤ cnt o (k + d) := by
 intro d; induction d with
 | zero => intro k; exact Nat.le_refl _
 | succ d ih => intro k; have := ih k; rw [show k + (d + 1) = (k + d) + 1 by omega]; simp only [cnt]; omega
theorem nxt_zero (o : Int) (h : takes o 0 = true) : ∀ k, nxt o 0 (k + 1) + 1 = cnt o (k + 1) := by
 intro k
 induction k with
 | zero => simp [nxt, cnt, used, h]
 | succ k ih =>
  have e1 : nxt o 0 (k + 1 + 1) = nxt o 0 (k + 1) + if used o 0 (k + 1) then 1 else 0 := rfl
  have e2 : cnt o (k + 1 + 1) = cnt o (k + 1) + if takes o (k + 1) then 1 else 0 := rfl
  have e3 : used o 0 (k + 1) = takes o (k + 1) := by unfold used; rw [decide_eq_true (by omega), Bool.and_true]
  rw [e1, e2, e3]
  omega
theorem nxt_five (o : Int) : ∀ k, k ≤ 5 → nxt o 5 k = cnt o k := by
 intro k
 induction k with
 | zero => intro _; rfl
 | succ k ih =>
  intro hk
  have e1 : nxt o 5 (k + 1) = nxt o 5 k + if used o 5 k then 1 else 0 := rfl
  have e2 : cnt o (k + 1) = cnt o k + if takes o k then 1 else 0 := rfl
  have e3 : used o 5 k = takes o k := by unfold used; rw [decide_eq_true (by omega), Bool.and_true]
  rw [e1, e2, e3, ih (by omega)]
theorem full_eq (o : Nat) (ho : o < 512) (h2 : spec_CronTwoOptional.f (o : Int) = some false) (words : List Txt) (m : Int) (hm : missN o words.length = some m) :
  (∀ k, k < 6 → fullAt o m words k = fullX o (wordsX m words) k) ∧ (wordsX m words).length = cnt o 6 ∧ (m = -1 ∧ words.length = cnt o 6 ∨ m = missO o ∧ (m = 5 ∨ m = 0) ∧ words.length + 1 = cnt o 6) := by
 obtain ⟨_, _, h3⟩ := norm_facts o ho h2
 have hfit := nxt_fits o ho _ _ hm
 unfold missN at hm
 split at hm
 ·rename_i h1
  cases hm
  refine ⟨fun k hk => ?_, by unfold wordsX; rw [if_neg (by decide), if_neg (by decide)]; exact h1, .inl ⟨rfl, h1⟩⟩
  unfold fullAt fullX used wordsX
  rw [nxt_none, decide_eq_true (by omega), Bool.and_true, if_neg (show ¬ (-1 : Int) = 5 by decide), if_neg (show ¬ (-1 : Int) = 0 by decide)]
 ·split at hm
  ·cases hm
  ·rename_i h1 h4
   cases hm
   have hn1 : (words.length : Int) = (cnt o 6 : Int) - 1 := by
    by_cases e : (words.length : Int) = (cnt o 6 : Int) - 1
    ·exact e
    ·exact absurd (.inr e) h4
   have hn : words.length + 1 = cnt o 6 := by omega
   have hneg : ¬ missO (o : Int) < 0 := fun h => h4 (.inl h)
   rcases h3 with h3 | ⟨h3, ht, _⟩ | ⟨h3, ht, _⟩
   ·rw [h3] at hneg; exact absurd (by decide) hneg
   ·rw [h3] at hfit ⊢
    refine ⟨fun k hk => ?_, by unfold wordsX; rw [if_pos rfl]; simp; omega, .inr ⟨rfl, .inl rfl, hn⟩⟩
    unfold fullAt fullX wordsX
    rw [if_pos rfl]
    by_cases h5 : k = 5
    ·subst h5
     have hu : used (o : Int) 5 5 = false := by unfold used; simp
     have hc5 : cnt (o : Int) 5 = words.length := by
      have e2 : cnt (o : Int) 6 = cnt (o : Int) 5 + if takes (o : Int) 5 then 1 else 0 := rfl
      rw [ht, if_pos rfl] at e2; omega
     rw [hu, if_neg (by decide), ht, if_pos rfl, hc5, List.getD_eq_getElem?_getD, List.getElem?_append_right (Nat.le_refl _), Nat.sub_self]
     rfl
    ·have hu : used (o : Int) 5 k = takes (o : Int) k := by unfold used; rw [decide_eq_true (by omega), Bool.and_true]
     rw [hu, nxt_five _ k (by omega)]
     cases htk : takes (o : Int) k with
     | false => rfl
     | true =>
      rw [if_pos rfl, if_pos rfl]
      have hlt : cnt (o : Int) k < words.length := by
       have h6 := nxt_mono (o : Int) 5 (6 - (k + 1)) (k + 1)
       rw [show k + 1 + (6 - (k + 1)) = 6 by omega, hfit] at h6
       have e1 : nxt (o : Int) 5 (k + 1) = nxt (o : Int) 5 k + if used (o : Int) 5 k then 1 else 0 := rfl
       rw [hu, htk, if_pos rfl, nxt_five _ k (by omega)] at e1
       omega
      rw [List.getD_eq_getElem?_getD, List.getD_eq_getElem?_getD, List.getElem?_append_left hlt]
   ·rw [h3] at hfit ⊢
    refine ⟨fun k hk => ?_, by unfold wordsX; rw [if_neg (by decide), if_pos rfl]; simp; omega, .inr ⟨rfl, .inr rfl, hn⟩⟩
    unfold fullAt fullX wordsX
    rw [if_neg (show ¬ (0 : Int) = 5 by decide), if_pos rfl]
    cases k with
    | zero =>
     have hu : used (o : Int) 0 0 = false := by unfold used; simp
     rw [hu, if_neg (by decide), ht, if_pos rfl]
     rfl
    | succ k =>
     have hu : used (o : Int) 0 (k + 1) = takes (o : Int) (k + 1) := by unfold used; rw [decide_eq_true (by omega), Bool.and_true]
     rw [hu]
     cases htk : takes (o : Int) (k + 1) with
     | false => rfl
     | true =>
      rw [if_pos rfl, if_pos rfl, ← nxt_zero _ ht k]
      rfl
end Go.Proofs.YtcjdideliifkhaaGreatDoor
