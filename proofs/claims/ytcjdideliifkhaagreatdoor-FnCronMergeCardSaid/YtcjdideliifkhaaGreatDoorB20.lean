import Derived.Test.YtcjdideliifkhaaGreatDoorB19
set_option maxRecDepth 100000
set_option maxHeartbeats 16000000
namespace Go.Proofs.YtcjdideliifkhaaGreatDoor
open Go.RowKit Go.Proofs.YtcjdideliifkhaaGreatDoorW.PrintWords Go.Proofs.YtcjdideliifkhaaGreatDoorW.PrintLast Go.Proofs.YtcjdideliifkhaaGreatDoorW.PrintMore PFnCronTextAfterAnywhere
set_option linter.unusedVariables false
set_option linter.unusedSimpArgs false
def blank (c : UInt8) : Bool := c.toNat == 32 || (decide (9 ≤ c.toNat) && decide (c.toNat ≤ 13))
theorem blank_f (c : UInt8) : spec_cronBlank.f (c.toNat : Int) = some (blank c) := by
 unfold spec_cronBlank.f blank
 by_cases h : c.toNat = 32
 ·rw [if_pos (by omega), h]; rfl
 ·rw [if_neg (by omega)]
  have h0 : (c.toNat == 32) = false := by simpa using h
  rw [h0, Bool.false_or]
  by_cases h9 : 9 ≤ c.toNat
  ·rw [if_pos (by omega), decide_eq_true h9, Bool.true_and]
   congr 1
   exact decide_eq_decide.2 (by omega)
  ·rw [if_neg (by omega), decide_eq_false h9]; rfl
def wordsL : Option Txt → Txt → List Txt
 | none, [] => []
 | some p, [] => [p]
 | none, x :: xs => if blank x then wordsL none xs else wordsL (some [x]) xs
 | some p, x :: xs => if blank x then p :: wordsL none xs else wordsL (some (p ++ [x])) xs
def frI : Option Nat → Int
 | none => -1
 | some a => (a : Int)
def sliceT (s : ByteArray) (a pos : Nat) : Txt := ((toL s).take pos).drop a
theorem sliceT_snoc (s : ByteArray) (a pos : Nat) (h : pos < s.size) (ha : a ≤ pos) : sliceT s a (pos + 1) = sliceT s a pos ++ [s[pos]] := by
 unfold sliceT
 rw [take_at s pos h, List.drop_append_of_le_length (by rw [List.length_take, toL_len]; omega)]
theorem sliceT_one (s : ByteArray) (pos : Nat) (h : pos < s.size) : sliceT s pos (pos + 1) = [s[pos]] := by
 rw [sliceT_snoc s pos pos h (Nat.le_refl _)]
 unfold sliceT
 rw [List.drop_eq_nil_of_le (by rw [List.length_take]; omega)]; rfl
theorem words_blank_none (x : UInt8) (xs : Txt) (h : blank x = true) : wordsL none (x :: xs) = wordsL none xs := by rw [wordsL, if_pos h]
theorem words_blank_some (p : Txt) (x : UInt8) (xs : Txt) (h : blank x = true) : wordsL (some p) (x :: xs) = p :: wordsL none xs := by rw [wordsL, if_pos h]
theorem words_char_none (x : UInt8) (xs : Txt) (h : blank x = false) : wordsL none (x :: xs) = wordsL (some [x]) xs := by rw [wordsL, if_neg (by rw [h]; decide)]
theorem words_char_some (p : Txt) (x : UInt8) (xs : Txt) (h : blank x = false) : wordsL (some p) (x :: xs) = wordsL (some (p ++ [x])) xs := by rw [wordsL, if_neg (by rw [h]; decide)]
theorem byte_at (s : ByteArray) (i : Nat) (h : i < s.size) : (toL s).drop i = s[i] :: (toL s).drop (i + 1) := List.drop_eq_getElem_cons (l := toL s) h
theorem drop_all (s : ByteArray) : (toL s).drop s.size = [] := List.drop_length
theorem pieces_c (s : ByteArray) (c : UInt8) (hs : s.size ≤ 4294967296) (w : World) :
  Calls Tryz.prog 111 #[.string s, .int .u8 (c.toNat : Int)] w fun e w' => ∃ v, e = .returned v ∧ RowB w w' 9 v (((pieces c [] (toL s)).map ofL).map Value.string) ∧ Below w.heap.size w w' := by
 go_enter Tryz.func111, Tryz.ntmps111
 go_wp2
 go_loopw [5, 6, 10] (fun v5 v6 v10 wr => ∃ (i a : Nat) (acc : List Txt), v10 = .int .i64 (i : Int) ∧ v6 = .int .i64 (a : Int) ∧ i ≤ s.size ∧ a ≤ i ∧ acc.length ≤ i ∧ RowB w wr 9 v5 ((acc.map ofL).map Value.string) ∧ pieces c [] (toL s) = acc ++ pieces c (sliceT s a i) ((toL s).drop i)) (fun _ _ v10 _ => s.size - (intOf v10).toNat)
 case atStart => exact ⟨0, 0, [], rfl, rfl, Nat.zero_le _, Nat.le_refl _, Nat.le_refl _, RowB.nil _ _ _ (Below.refl _ _), rfl⟩
 case round =>
  obtain ⟨i, a, acc, rfl, rfl, hi, ha, hacc, hR, hP⟩ := hrel
  have HR := Lib.hid hR
  have hlen : ((acc.map ofL).map Value.string).length ≤ 4294967296 := by simp; omega
  clear hR
  by_cases h : i < s.size
  ·rw [byte_at s i h] at hP
   have HSN := Lib.hid (sliceT_snoc s a i h ha)
   by_cases hc : s[i] = c
   ·have hc' : ((s[i].toNat : Int) == (c.toNat : Int)) = true := by rw [hc]; simp
    rw [pieces, if_pos hc] at hP
    have HE := Lib.hid (show s.extract a i = ofL (sliceT s a i) from extract_ofL s a i)
    have HP := Lib.hid hP
    clear hP HSN
    go_wp2_with (refine wpList_app1 elem9 (HR.out.alloc (.cells #[.string (s.extract a i)] 9)) rfl _ _ rfl rfl wr.heap.size 1 (.string (s.extract a i)) rfl (blk_cell (blk_new _ _) 0) rfl hlen ?_; intro v' w' h1 h2 h3)
    rw [HE.out] at h1
    exact ⟨⟨i + 1, i + 1, acc ++ [sliceT s a i], rfl, rfl, h, Nat.le_refl _, by simp; omega, by simpa using h1, by rw [HP.out, show sliceT s (i + 1) (i + 1) = [] by unfold sliceT; simp]; simp⟩, by simp [intOf]; omega⟩
   ·have hc' : ((s[i].toNat : Int) == (c.toNat : Int)) = false := by simp; exact fun h => hc (UInt8.toNat_inj.1 (by omega))
    rw [pieces, if_neg hc, ← HSN.out] at hP
    have HP := Lib.hid hP
    clear hP HSN
    go_wp2
    exact ⟨⟨i + 1, a, acc, rfl, rfl, h, by omega, by omega, HR.out, HP.out⟩, by simp [intOf]; omega⟩
  ·obtain rfl : i = s.size := by omega
   rw [drop_all] at hP
   have HE := Lib.hid (show s.extract a s.size = ofL (sliceT s a s.size) from extract_ofL s a s.size)
   have HP := Lib.hid hP
   clear hP
   go_wp2_with (refine wpList_app1 elem9 (HR.out.alloc (.cells #[.string (s.extract a s.size)] 9)) rfl _ _ rfl rfl wr.heap.size 1 (.string (s.extract a s.size)) rfl (blk_cell (blk_new _ _) 0) rfl hlen ?_; intro v' w' h1 h2 h3)
   go_ret
   rw [HE.out] at h1
   exact ⟨v', rfl, by rw [HP.out]; simpa [pieces] using h1, h1.below⟩
theorem blank_c (c : UInt8) (w : World) : Calls Tryz.prog 46 #[.int .u8 (c.toNat : Int)] w fun e w' => e = .returned (.bool (blank c)) ∧ Below w.heap.size w w' := by
 refine (spec_cronBlank.calls _ (blank c) _ (blank_f c)).mono ?_
 rintro e w' ⟨rfl, h⟩
 exact ⟨rfl, h.below⟩
theorem words_c (s : ByteArray) (hs : s.size ≤ 4294967295) (w : World) :
  Calls Tryz.prog 43 #[.string s] w fun e w' => ∃ v, e = .returned v ∧ RowB w w' 9 v (((wordsL none (toL s)).map ofL).map Value.string) ∧ Below w.heap.size w w' := by
 go_enter Tryz.func43, Tryz.ntmps43
 go_wp2
 go_loopw [3, 4, 8] (fun v3 v4 v8 wr => ∃ (i : Nat) (fr : Option Nat) (acc : List Txt), v8 = .int .i64 (i : Int) ∧ v4 = .int .i64 (frI fr) ∧ i ≤ s.size ∧ (∀ a, fr = some a → a ≤ i) ∧ acc.length ≤ i ∧ RowB w wr 9 v3 ((acc.map ofL).map Value.string) ∧ wordsL none (toL s) = acc ++ wordsL (fr.map fun a => sliceT s a i) ((toL s).drop i)) (fun _ _ v8 _ => s.size - (intOf v8).toNat)
 case atStart => exact ⟨0, none, [], rfl, rfl, Nat.zero_le _, (fun a h => by cases h), Nat.le_refl _, RowB.nil _ _ _ (Below.refl _ _), rfl⟩
 case round =>
  obtain ⟨i, fr, acc, rfl, rfl, hi, hfr, hacc, hR, hW⟩ := hrel
  have HR := Lib.hid hR
  have hlen : ((acc.map ofL).map Value.string).length ≤ 4294967296 := by simp; omega
  clear hR
  by_cases h : i < s.size
  ·rw [byte_at s i h] at hW
   have HSN := Lib.hid (fun a ha => sliceT_snoc s a i h ha)
   have HONE := Lib.hid (sliceT_one s i h)
   have HBC := Lib.hid (fun w => blank_c s[i] w)
   cases hb : blank s[i] <;> rw [hb] at HBC <;> cases fr
   ·have HW := Lib.hid (hW.trans (by simp only [Option.map_none]; rw [words_char_none _ _ hb]))
    rw [show frI none = -1 from rfl]
    clear hW hfr hb
    go_wp2_with (go_at_call 46; refine (HBC.out _).mono ?_; rintro e w2 ⟨rfl, hb2⟩; have HR := Lib.hid (HR.out.below' hb2); clear hb2)
    exact ⟨⟨i + 1, some i, acc, rfl, rfl, h, (fun a h => by cases h; omega), by omega, HR.out, HW.out.trans (by simp only [Option.map_some]; rw [HONE.out])⟩, by simp [intOf]; omega⟩
   ·rename_i a
    have ha := hfr a rfl
    have HW := Lib.hid (hW.trans (by simp only [Option.map_some]; rw [words_char_some _ _ _ hb]))
    rw [show frI (some a) = (a : Int) from rfl]
    clear hW hfr hb
    go_wp2_with (go_at_call 46; refine (HBC.out _).mono ?_; rintro e w2 ⟨rfl, hb2⟩; have HR := Lib.hid (HR.out.below' hb2); clear hb2)
    exact ⟨⟨i + 1, some a, acc, rfl, rfl, h, (fun a h => by cases h; omega), by omega, HR.out, HW.out.trans (by simp only [Option.map_some]; rw [HSN.out a ha])⟩, by simp [intOf]; omega⟩
   ·have HW := Lib.hid (hW.trans (by simp only [Option.map_none]; rw [words_blank_none _ _ hb]))
    rw [show frI none = -1 from rfl]
    clear hW hfr hb
    go_wp2_with (go_at_call 46; refine (HBC.out _).mono ?_; rintro e w2 ⟨rfl, hb2⟩; have HR := Lib.hid (HR.out.below' hb2); clear hb2)
    exact ⟨⟨i + 1, none, acc, rfl, rfl, h, (fun a h => by cases h), by omega, HR.out, HW.out⟩, by simp [intOf]; omega⟩
   ·rename_i a
    have ha := hfr a rfl
    have HW := Lib.hid (hW.trans (by simp only [Option.map_some]; rw [words_blank_some _ _ _ hb]))
    have HE := Lib.hid (show s.extract a i = ofL (sliceT s a i) from extract_ofL s a i)
    rw [show frI (some a) = (a : Int) from rfl]
    clear hW hfr hb
    go_wp2_with (first
     | (go_at_call 46; refine (HBC.out _).mono ?_; rintro e w2 ⟨rfl, hb2⟩; have HR := Lib.hid (HR.out.below' hb2); clear hb2)
     | (refine wpList_app1 elem9 (HR.out.alloc (.cells #[.string (s.extract a i)] 9)) rfl _ _ rfl rfl w2.heap.size 1 (.string (s.extract a i)) rfl (blk_cell (blk_new _ _) 0) rfl hlen ?_; intro v' w' h1 h2 h3))
    rw [HE.out] at h1
    exact ⟨⟨i + 1, none, acc ++ [sliceT s a i], rfl, rfl, h, (fun a h => by cases h), by simp; omega, by simpa using h1, HW.out.trans (by simp)⟩, by simp [intOf]; omega⟩
  ·obtain rfl : i = s.size := by omega
   rw [drop_all] at hW
   cases fr with
   | none =>
    have HW := Lib.hid (hW.trans (by simp [wordsL]) : wordsL none (toL s) = acc)
    rw [show frI none = -1 from rfl]
    clear hW hfr
    go_wp2
    go_ret
    exact ⟨_, rfl, by rw [HW.out]; exact HR.out, HR.out.below⟩
   | some a =>
    have ha := hfr a rfl
    have HW := Lib.hid (hW.trans (by simp [wordsL]) : wordsL none (toL s) = acc ++ [sliceT s a s.size])
    have HE := Lib.hid (show s.extract a s.size = ofL (sliceT s a s.size) from extract_ofL s a s.size)
    rw [show frI (some a) = (a : Int) from rfl]
    clear hW hfr
    go_wp2_with (refine wpList_app1 elem9 (HR.out.alloc (.cells #[.string (s.extract a s.size)] 9)) rfl _ _ rfl rfl wr.heap.size 1 (.string (s.extract a s.size)) rfl (blk_cell (blk_new _ _) 0) rfl hlen ?_; intro v' w' h1 h2 h3)
    go_ret
    rw [HE.out] at h1
    exact ⟨v', rfl, by rw [HW.out]; simpa using h1, h1.below⟩
structure EnS (kind : Int) (w : World) (ad : Addr) (l : List Txt) (w' : World) : Prop where
 below : Below w.heap.size w w'
 box : w'.heap[w.heap.size]? = some (.cells #[.int .i64 (low kind), .int .i64 (high kind), .int .i64 kind] 169 (0, 0))
 row : ∀ i (h : i < l.length), w'.cell? (ad.add i) = some (.string (ofL l[i]))
theorem EnS.goes {kind : Int} {w : World} {ad : Addr} {l : List Txt} {w' w'' : World} (h : EnS kind w ad l w') (hb : Below w'.heap.size w' w'') : EnS kind w ad l w'' :=
 ⟨below_step h.below hb, blk_below h.box hb, fun i hi => pw_cell_below hb (h.row i hi)⟩
theorem ends_c (kind : Int) (s : ByteArray) (hs : s.size ≤ 4294967296) : ∃ (lo hi : Int) (star single : Bool) (v : Int), 0 ≤ v ∧ (v = 1 → EndsR kind (toL s) lo hi star single) ∧
  ∀ w, Calls Tryz.prog 143 #[.agg #[.int .i64 (low kind), .int .i64 (high kind), .int .i64 kind], .string s] w fun e w' => e = .returned (.tuple #[.int .i64 lo, .int .i64 hi, .bool star, .bool single, .int .i64 v]) ∧ Below w.heap.size w w' := by
 have hne := pieces_ne 45 (toL s) []
 have hm := fun e h => pieces_mem_len 45 (toL s) e h
 have hR : ∀ lo hi star single, EndsR kind (toL s) lo hi star single = ((∃ e, pieces 45 [] (toL s) = [e] ∧ (e = [42] ∨ (e = [63] ∧ (kind = 3 ∨ kind = 5))) ∧ lo = low kind ∧ hi = high kind ∧ star = true ∧ single = true)
  ∨ (∃ e, pieces 45 [] (toL s) = [e] ∧ e ≠ [42] ∧ e ≠ [63] ∧ ValR kind e lo ∧ hi = lo ∧ star = false ∧ single = true)
  ∨ (∃ e1 e2, pieces 45 [] (toL s) = [e1, e2] ∧ e1 ≠ [42] ∧ e1 ≠ [63] ∧ ValR kind e1 lo ∧ ValR kind e2 hi ∧ star = false ∧ single = false)) := fun _ _ _ _ => rfl
 rw [toL_len] at hm
 have HP := Lib.hid (fun w => pieces_c s 45 hs w)
 generalize pieces 45 [] (toL s) = p at HP hne hm hR
 obtain ⟨e, q, rfl⟩ := List.exists_cons_of_ne_nil hne
 have hme : e.length ≤ 4294967296 := by have := hm e (by simp); omega
 have hu169 := Tryz.underlying169
 have hnl : ((e :: q).map ofL).length = q.length + 1 := by simp
 obtain ⟨b42, h42⟩ : ∃ b, ((ofL e).toList == ([42] : List UInt8)) = b := ⟨_, rfl⟩
 obtain ⟨b63, h63⟩ : ∃ b, ((ofL e).toList == ([63] : List UInt8)) = b := ⟨_, rfl⟩
 have i42 : e = [42] ↔ b42 = true := by rw [← h42, toList_toL, toL_ofL]; simp
 have i63 : e = [63] ↔ b63 = true := by rw [← h63, toList_toL, toL_ofL]; simp
 by_cases hst : (b42 || b63) = true
 ·obtain ⟨b1, h1⟩ : ∃ b, decide (((q.length : Int) + 1) > 1) = b := ⟨_, rfl⟩
  obtain ⟨k3, h3⟩ : ∃ b, (kind != 3) = b := ⟨_, rfl⟩
  obtain ⟨k5, h5⟩ : ∃ b, (kind != 5) = b := ⟨_, rfl⟩
  have g1 : (((q.length : Int) + 1) == 1) = !b1 := by
   rw [← h1]
   by_cases c : q.length = 0
   ·rw [c]; rfl
   ·rw [decide_eq_true (by omega)]; simp; omega
  refine ⟨low kind, high kind, true, !b1, if b1 || (b63 && k3 && k5) then 2 else 1, by split <;> decide, fun h => ?_, fun w => ?_⟩
  ·have h' : (b1 || (b63 && k3 && k5)) = false := by
    cases c : (b1 || (b63 && k3 && k5)) with
    | false => rfl
    | true => rw [c] at h; cases h
   rw [Bool.or_eq_false_iff] at h'
   obtain ⟨h6, h7⟩ := h'
   subst h6
   have hq : q = [] := by
    have := of_decide_eq_false h1
    exact List.eq_nil_of_length_eq_zero (by omega)
   subst hq
   rw [hR]
   refine .inl ⟨e, rfl, ?_, rfl, rfl, rfl, rfl⟩
   rcases Bool.or_eq_true _ _ ▸ hst with h8 | h8
   ·exact .inl (i42.2 h8)
   ·subst h8
    refine .inr ⟨i63.2 rfl, ?_⟩
    rw [← h3, ← h5] at h7
    simp at h7
    by_cases c : kind = 3
    ·exact .inl c
    ·exact .inr (h7 c)
  go_enter Tryz.func143, Tryz.ntmps143
  have B0 := Lib.hid (blk_new w (.cells #[.int .i64 (low kind), .int .i64 (high kind), .int .i64 kind] 169))
  have B1 := Lib.hid (below_alloc (Below.refl w.heap.size w) (.cells #[.int .i64 (low kind), .int .i64 (high kind), .int .i64 kind] 169))
  go_upto_region 2 with (go_at_call 111; refine (HP.out _).mono ?_; rintro e w2 ⟨vp, rfl, hr, hb2⟩; obtain ⟨A, cp, rfl, hrow⟩ := Strs.of hr; have HR := Lib.hid hrow; have HB2 := Lib.hid hb2; clear hr hrow hb2)
  obtain ⟨ad, rfl, r0⟩ := HR.out 0 (by simp)
  rw [Addr.add_zero'] at r0
  replace r0 : w2.cell? ad = some (.string (ofL e)) := r0
  have hS : EnS kind w ad (e :: q) w2 := ⟨below_step B1.out HB2.out, blk_below B0.out HB2.out, fun i hi => by obtain ⟨ad', h1, h2⟩ := HR.out i (by simpa using hi); cases h1; rw [List.getElem_map] at h2; exact h2⟩
  have x0 : w2.cell? ⟨w.heap.size, 0, none⟩ = some (.int .i64 (low kind)) := blk_cell hS.box 0
  have x1 : w2.cell? ⟨w.heap.size, 1, none⟩ = some (.int .i64 (high kind)) := blk_cell hS.box 1
  have x2 : w2.cell? ⟨w.heap.size, 2, none⟩ = some (.int .i64 kind) := blk_cell hS.box 2
  have HS := Lib.hid hS
  clear hS B0 B1 HR HB2 HP
  have HB := HS.out.below
  clear hR hm i42 i63 hne
  cases b42 <;> cases b63 <;> first | (exact absurd hst (by decide)) | skip
  all_goals
   cases b1 <;> cases k3 <;> cases k5
   all_goals
    go_wp2
    go_quiet (fail)
    go_wp2
    refine bodyPost_ret (results_list (rs := [.tmp 4, .tmp 5, .tmp 6, .tmp 7, .tmp 8]) rfl (by simp) (.tmp (.tmp (.tmp (.tmp (.tmp .nil)))))) rfl ?_
    exact ⟨rfl, HB.trans (Go.Joins.below_draws _ _ _)⟩
 have hst' : b42 = false ∧ b63 = false := by cases b42 <;> cases b63 <;> simp_all
 obtain ⟨rfl, rfl⟩ := hst'
 have n42 : e ≠ [42] := fun h => by cases i42.1 h
 have n63 : e ≠ [63] := fun h => by cases i63.1 h
 obtain ⟨r, v, hv0, hv1, hv⟩ := value_c kind e hme
 have HV := Lib.hid hv
 clear hv i42 i63 hst hne
 by_cases hq1 : q.length = 0
 ·refine ⟨r, r, false, true, v, hv0, fun h => ?_, fun w => ?_⟩
  ·obtain rfl := List.eq_nil_of_length_eq_zero hq1
   rw [hR]; exact .inr (.inl ⟨e, rfl, n42, n63, hv1 h, rfl, rfl, rfl⟩)
  clear hR hm hv1 n42 n63
  have g1 : (((q.length : Int) + 1) == 1) = true := by rw [hq1]; rfl
  go_enter Tryz.func143, Tryz.ntmps143
  have B0 := Lib.hid (blk_new w (.cells #[.int .i64 (low kind), .int .i64 (high kind), .int .i64 kind] 169))
  have B1 := Lib.hid (below_alloc (Below.refl w.heap.size w) (.cells #[.int .i64 (low kind), .int .i64 (high kind), .int .i64 kind] 169))
  go_upto_region 2 with (go_at_call 111; refine (HP.out _).mono ?_; rintro e w2 ⟨vp, rfl, hr, hb2⟩; obtain ⟨A, cp, rfl, hrow⟩ := Strs.of hr; have HR := Lib.hid hrow; have HB2 := Lib.hid hb2; clear hr hrow hb2)
  obtain ⟨ad, rfl, r0⟩ := HR.out 0 (by simp)
  rw [Addr.add_zero'] at r0
  replace r0 : w2.cell? ad = some (.string (ofL e)) := r0
  have hS : EnS kind w ad (e :: q) w2 := ⟨below_step B1.out HB2.out, blk_below B0.out HB2.out, fun i hi => by obtain ⟨ad', h1, h2⟩ := HR.out i (by simpa using hi); cases h1; rw [List.getElem_map] at h2; exact h2⟩
  have x0 : w2.cell? ⟨w.heap.size, 0, none⟩ = some (.int .i64 (low kind)) := blk_cell hS.box 0
  have x1 : w2.cell? ⟨w.heap.size, 1, none⟩ = some (.int .i64 (high kind)) := blk_cell hS.box 1
  have x2 : w2.cell? ⟨w.heap.size, 2, none⟩ = some (.int .i64 kind) := blk_cell hS.box 2
  have HS := Lib.hid hS
  clear hS B0 B1 HR HB2 HP
  go_upto_region 7 with (fail)
  refine wp_region_det (F := ?F1) (by kernel_rfl) 83 rfl 11 [(52, .pointer (some ⟨w.heap.size, 2, none⟩)), (53, .int .i64 kind), (54, .slice (some ad) (q.length + 1) cp), (55, .pointer (some ad)), (56, .string (ofL e)), (57, .tuple #[.int .i64 r, .int .i64 v]), (51, .tuple #[.int .i64 r, .int .i64 v]), (58, .int .i64 r), (59, .int .i64 v), (4, .int .i64 r), (8, .int .i64 v)] ?hF1 (by kernel_rfl) (EnS kind w ad (e :: q)) (fun _ _ h hb => h.goes hb) (HS.out.goes (Below.refl _ _).drew) ?_ ?_
  case hF1 =>
   simp only [List.foldl_cons, List.foldl_nil, List.setIfInBounds_toArray, List.set_cons_zero, List.set_cons_succ]
   rfl
  ·and_intros
   all_goals first | exact trivial | intro _ w3 h3
   all_goals
    have y0 := blk_cell h3.box 2
    have y1 := h3.row 0 (by simp)
    rw [Addr.add_zero'] at y1
    have hb := Below.refl w3.heap.size w3
    change Oper.wp _ _ _ _ _ _
    go_simp
   refine (HV.out _).mono ?_
   rintro e w4 ⟨rfl, hb⟩
   exact ⟨rfl, hb⟩
  intro w3 h3
  show Exit.then _ _ .normal _ w3
  clear x0 x1 x2 HS r0
  have HB := h3.below
  clear h3
  go_wp2
  refine bodyPost_ret (results_list (rs := [.tmp 4, .tmp 5, .tmp 6, .tmp 7, .tmp 8]) rfl (by simp) (.tmp (.tmp (.tmp (.tmp (.tmp .nil)))))) rfl ?_
  exact ⟨rfl, HB⟩
 have g1 : (((q.length : Int) + 1) == 1) = false := by simp; omega
 by_cases hq2 : q.length = 1
 ·obtain ⟨e2, rfl⟩ : ∃ e2, q = [e2] := by
   match q, hq2 with
   | [e2], _ => exact ⟨e2, rfl⟩
  obtain ⟨r2, v2, hv20, hv21, hv2⟩ := value_c kind e2 (by have := hm e2 (by simp); omega)
  obtain ⟨v3, hw, hw0, hw1⟩ := worse_f v v2 hv0 hv20
  refine ⟨r, r2, false, false, v3, hw0, fun h => ?_, fun w => ?_⟩
  ·rw [hR]; exact .inr (.inr ⟨e, e2, rfl, n42, n63, hv1 (hw1 h).1, hv21 (hw1 h).2, rfl, rfl⟩)
  have HV2 := Lib.hid hv2
  have HW := Lib.hid hw
  clear hR hm hv1 hv21 hw1 hw hv2 n42 n63
  have hql : ([e2] : List Txt).length = 1 := rfl
  generalize hqq : ([e2] : List Txt) = q at *
  have g2 : (((q.length : Int) + 1) == 2) = true := by rw [hq2]; rfl
  go_enter Tryz.func143, Tryz.ntmps143
  have B0 := Lib.hid (blk_new w (.cells #[.int .i64 (low kind), .int .i64 (high kind), .int .i64 kind] 169))
  have B1 := Lib.hid (below_alloc (Below.refl w.heap.size w) (.cells #[.int .i64 (low kind), .int .i64 (high kind), .int .i64 kind] 169))
  go_upto_region 2 with (go_at_call 111; refine (HP.out _).mono ?_; rintro e w2 ⟨vp, rfl, hr, hb2⟩; obtain ⟨A, cp, rfl, hrow⟩ := Strs.of hr; have HR := Lib.hid hrow; have HB2 := Lib.hid hb2; clear hr hrow hb2)
  obtain ⟨ad, rfl, r0⟩ := HR.out 0 (by simp)
  rw [Addr.add_zero'] at r0
  replace r0 : w2.cell? ad = some (.string (ofL e)) := r0
  have hS : EnS kind w ad (e :: q) w2 := ⟨below_step B1.out HB2.out, blk_below B0.out HB2.out, fun i hi => by obtain ⟨ad', h1, h2⟩ := HR.out i (by simpa using hi); cases h1; rw [List.getElem_map] at h2; exact h2⟩
  have x0 : w2.cell? ⟨w.heap.size, 0, none⟩ = some (.int .i64 (low kind)) := blk_cell hS.box 0
  have x1 : w2.cell? ⟨w.heap.size, 1, none⟩ = some (.int .i64 (high kind)) := blk_cell hS.box 1
  have x2 : w2.cell? ⟨w.heap.size, 2, none⟩ = some (.int .i64 kind) := blk_cell hS.box 2
  have HS := Lib.hid hS
  clear hS B0 B1 HR HB2 HP
  go_upto_region 7 with (fail)
  refine wp_region_det (F := ?F2) (by kernel_rfl) 83 rfl 11 [(52, .pointer (some ⟨w.heap.size, 2, none⟩)), (53, .int .i64 kind), (54, .slice (some ad) (q.length + 1) cp), (55, .pointer (some ad)), (56, .string (ofL e)), (57, .tuple #[.int .i64 r, .int .i64 v]), (51, .tuple #[.int .i64 r, .int .i64 v]), (58, .int .i64 r), (59, .int .i64 v), (4, .int .i64 r), (8, .int .i64 v)] ?hF2 (by kernel_rfl) (EnS kind w ad (e :: q)) (fun _ _ h hb => h.goes hb) (HS.out.goes (Below.refl _ _).drew) ?_ ?_
  case hF2 =>
   simp only [List.foldl_cons, List.foldl_nil, List.setIfInBounds_toArray, List.set_cons_zero, List.set_cons_succ]
   rfl
  ·and_intros
   all_goals first | exact trivial | intro _ w3 h3
   all_goals
    have y0 := blk_cell h3.box 2
    have y1 := h3.row 0 (by simp)
    rw [Addr.add_zero'] at y1
    have hb := Below.refl w3.heap.size w3
    change Oper.wp _ _ _ _ _ _
    go_simp
   refine (HV.out _).mono ?_
   rintro e w4 ⟨rfl, hb⟩
   exact ⟨rfl, hb⟩
  intro w3 h3
  show Exit.then _ _ .normal _ w3
  clear x0 x1 x2 HS r0
  go_upto_region 12 with (fail)
  refine wp_region_det (F := ?F3) (by kernel_rfl) 83 rfl 11 [(70, .pointer (some ⟨w.heap.size, 2, none⟩)), (71, .int .i64 kind), (72, .slice (some ad) (q.length + 1) cp), (73, .pointer (some (ad.add 1))), (74, .string (ofL e2)), (75, .tuple #[.int .i64 r2, .int .i64 v2]), (69, .tuple #[.int .i64 r2, .int .i64 v2]), (76, .int .i64 r2), (77, .int .i64 v2), (10, .int .i64 r2), (11, .int .i64 v2)] ?hF3 (by kernel_rfl) (EnS kind w ad (e :: q)) (fun _ _ h hb => h.goes hb) (h3.goes (Below.refl _ _).drew) ?_ ?_
  case hF3 =>
   simp only [List.foldl_cons, List.foldl_nil, List.setIfInBounds_toArray, List.set_cons_zero, List.set_cons_succ]
   rfl
  ·clear h3
   and_intros
   all_goals first | exact trivial | intro _ w5 h5
   all_goals
    have y0 := blk_cell h5.box 2
    have y1 : w5.cell? ⟨ad.block, ad.off + 1, none⟩ = some (.string (ofL e2)) := by subst hqq; exact h5.row 1 (by simp)
    have gi : ¬ ((q.length : Int) + 1 ≤ 1) := by omega
    have hb := Below.refl w5.heap.size w5
    change Oper.wp _ _ _ _ _ _
    go_simp
   refine (HV2.out _).mono ?_
   rintro e w4 ⟨rfl, hb⟩
   exact ⟨rfl, hb⟩
  clear h3
  intro w3 h3
  show Exit.then _ _ .normal _ w3
  have HB := h3.below
  clear h3
  go_wp2_with (go_at_call 28; refine (spec_worse.calls _ _ _ _ HW.out).mono ?_; rintro e w6 ⟨rfl, hb6⟩; have HB6 := Lib.hid (below_step HB hb6); clear hb6)
  refine bodyPost_ret (results_list (rs := [.tmp 4, .tmp 5, .tmp 6, .tmp 7, .tmp 8]) rfl (by simp) (.tmp (.tmp (.tmp (.tmp (.tmp .nil)))))) rfl ?_
  exact ⟨rfl, HB6.out⟩
 ·refine ⟨0, 0, false, false, 0, by decide, fun h => (by cases h), fun w => ?_⟩
  clear hR hm hv1 n42 n63
  have g2 : (((q.length : Int) + 1) == 2) = false := by simp; omega
  go_enter Tryz.func143, Tryz.ntmps143
  have B0 := Lib.hid (blk_new w (.cells #[.int .i64 (low kind), .int .i64 (high kind), .int .i64 kind] 169))
  have B1 := Lib.hid (below_alloc (Below.refl w.heap.size w) (.cells #[.int .i64 (low kind), .int .i64 (high kind), .int .i64 kind] 169))
  go_upto_region 2 with (go_at_call 111; refine (HP.out _).mono ?_; rintro e w2 ⟨vp, rfl, hr, hb2⟩; obtain ⟨A, cp, rfl, hrow⟩ := Strs.of hr; have HR := Lib.hid hrow; have HB2 := Lib.hid hb2; clear hr hrow hb2)
  obtain ⟨ad, rfl, r0⟩ := HR.out 0 (by simp)
  rw [Addr.add_zero'] at r0
  replace r0 : w2.cell? ad = some (.string (ofL e)) := r0
  have hS : EnS kind w ad (e :: q) w2 := ⟨below_step B1.out HB2.out, blk_below B0.out HB2.out, fun i hi => by obtain ⟨ad', h1, h2⟩ := HR.out i (by simpa using hi); cases h1; rw [List.getElem_map] at h2; exact h2⟩
  have x0 : w2.cell? ⟨w.heap.size, 0, none⟩ = some (.int .i64 (low kind)) := blk_cell hS.box 0
  have x1 : w2.cell? ⟨w.heap.size, 1, none⟩ = some (.int .i64 (high kind)) := blk_cell hS.box 1
  have x2 : w2.cell? ⟨w.heap.size, 2, none⟩ = some (.int .i64 kind) := blk_cell hS.box 2
  have HS := Lib.hid hS
  clear hS B0 B1 HR HB2 HP
  go_upto_region 7 with (fail)
  refine wp_region_det (F := ?F4) (by kernel_rfl) 83 rfl 11 [(52, .pointer (some ⟨w.heap.size, 2, none⟩)), (53, .int .i64 kind), (54, .slice (some ad) (q.length + 1) cp), (55, .pointer (some ad)), (56, .string (ofL e)), (57, .tuple #[.int .i64 r, .int .i64 v]), (51, .tuple #[.int .i64 r, .int .i64 v]), (58, .int .i64 r), (59, .int .i64 v), (4, .int .i64 r), (8, .int .i64 v)] ?hF4 (by kernel_rfl) (EnS kind w ad (e :: q)) (fun _ _ h hb => h.goes hb) (HS.out.goes (Below.refl _ _).drew) ?_ ?_
  case hF4 =>
   simp only [List.foldl_cons, List.foldl_nil, List.setIfInBounds_toArray, List.set_cons_zero, List.set_cons_succ]
   rfl
  ·and_intros
   all_goals first | exact trivial | intro _ w3 h3
   all_goals
    have y0 := blk_cell h3.box 2
    have y1 := h3.row 0 (by simp)
    rw [Addr.add_zero'] at y1
    have hb := Below.refl w3.heap.size w3
    change Oper.wp _ _ _ _ _ _
    go_simp
   refine (HV.out _).mono ?_
   rintro e w4 ⟨rfl, hb⟩
   exact ⟨rfl, hb⟩
  intro w3 h3
  show Exit.then _ _ .normal _ w3
  clear x0 x1 x2 HS r0
  have HB := h3.below
  clear h3
  go_wp2
  refine bodyPost_ret (results_list (rs := [.tmp 4, .tmp 5, .tmp 6, .tmp 7, .tmp 8]) rfl (by simp) (.tmp (.tmp (.tmp (.tmp (.tmp .nil)))))) rfl ?_
  exact ⟨rfl, HB⟩
end Go.Proofs.YtcjdideliifkhaaGreatDoor
