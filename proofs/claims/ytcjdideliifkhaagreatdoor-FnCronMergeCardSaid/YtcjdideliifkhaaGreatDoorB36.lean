import Derived.Test.YtcjdideliifkhaaGreatDoorB35
set_option maxRecDepth 100000
set_option maxHeartbeats 16000000
namespace Go.Proofs.YtcjdideliifkhaaGreatDoor
open Go.RowKit Go.Maps Go.Proofs.YtcjdideliifkhaaGreatDoorW.PrintWords Go.Proofs.YtcjdideliifkhaaGreatDoorW.PrintLast Go.Proofs.YtcjdideliifkhaaGreatDoorW.PrintMore PFnCronTextAfterAnywhere
set_option linter.unusedVariables false
set_option linter.unusedSimpArgs false
theorem every_f (d : Int) (h : d ≤ 4611686018427387904) : cron_Every.f d = some (delayL d) := by
 unfold cron_Every.f delayL gotime_Duration_Nanoseconds.f
 by_cases c : d < 1000000000
 ·rw [if_pos c, if_pos c, Option.bind_some, Int.tmod_self]; congr 1; unfold wrap64; omega
 ·rw [if_neg c, if_neg c, Option.bind_some, Int.tmod_eq_emod_of_nonneg (by omega)]
  congr 1
  unfold wrap64
  omega
theorem prefix_f (s : ByteArray) (t : Txt) : strings_HasPrefix.f s (ofL t) = some (begins (toL s) t) := by
 unfold strings_HasPrefix.f stringslite_HasPrefix.f begins
 rw [ofL_size, toL_len]
 by_cases h : t.length ≤ s.size
 ·rw [if_pos (by omega), if_pos (by omega), if_pos (by omega), decide_eq_true h, Bool.true_and, Option.bind_some]
  congr 1
  rw [Int.toNat_natCast, extract_ofL, toList_toL, toList_toL, toL_ofL, toL_ofL, List.drop_zero]
 ·rw [if_neg (by omega), decide_eq_false h]; rfl
theorem described_names {l : Txt} (h : describedL l = []) : l ≠ [64, 121, 101, 97, 114, 108, 121] ∧ l ≠ [64, 97, 110, 110, 117, 97, 108, 108, 121] ∧ l ≠ [64, 109, 111, 110, 116, 104, 108, 121] ∧ l ≠ [64, 119, 101, 101, 107, 108, 121] ∧ l ≠ [64, 100, 97, 105, 108, 121] ∧ l ≠ [64, 109, 105, 100, 110, 105, 103, 104, 116] ∧ l ≠ [64, 104, 111, 117, 114, 108, 121] := by
 unfold describedL at h
 refine ⟨?_, ?_, ?_, ?_, ?_, ?_, ?_⟩ <;> (intro e; rw [e] at h; revert h; decide)
theorem parseEvery_c (s : ByteArray) (hs : s.size ≤ 4294967200) (h0 : describedL (toL s) = []) (hb : begins (toL s) everyL = true) (d : Int) (hd : DurR ((toL s).drop 7) d) (F : CF) (loc : Option Addr) (w : World) :
  Calls Tryz.prog 54 #[.string s, .pointer loc] w (DescQ ⟨true, delayL d, F, false⟩ loc w) := by
 obtain ⟨n0, n1, n2, n3, n4, n5, n6⟩ := described_names h0
 have hb0 : (s.toList == ([64, 121, 101, 97, 114, 108, 121] : List UInt8)) = false := by rw [toList_toL]; simpa using n0
 have hb1 : (s.toList == ([64, 97, 110, 110, 117, 97, 108, 108, 121] : List UInt8)) = false := by rw [toList_toL]; simpa using n1
 have hb2 : (s.toList == ([64, 109, 111, 110, 116, 104, 108, 121] : List UInt8)) = false := by rw [toList_toL]; simpa using n2
 have hb3 : (s.toList == ([64, 119, 101, 101, 107, 108, 121] : List UInt8)) = false := by rw [toList_toL]; simpa using n3
 have hb4 : (s.toList == ([64, 100, 97, 105, 108, 121] : List UInt8)) = false := by rw [toList_toL]; simpa using n4
 have hb5 : (s.toList == ([64, 109, 105, 100, 110, 105, 103, 104, 116] : List UInt8)) = false := by rw [toList_toL]; simpa using n5
 have hb6 : (s.toList == ([64, 104, 111, 117, 114, 108, 121] : List UInt8)) = false := by rw [toList_toL]; simpa using n6
 have h7 : 7 ≤ s.size := by
  unfold begins at hb
  rw [Bool.and_eq_true, decide_eq_true_eq, toL_len] at hb
  exact hb.1
 have hext : s.extract 7 s.size = ofL ((toL s).drop 7) := by rw [extract_ofL, List.take_of_length_le (by rw [toL_len]; exact Nat.le_refl _)]
 have HP := Lib.hid (show strings_HasPrefix.f s (ofL everyL) = some true by rw [prefix_f, hb])
 have HE := Lib.hid (every_f d (DurR_le hd))
 have HD := Lib.hid (parseDuration_c (s.extract 7 s.size) (by rw [ByteArray.size_extract]; omega) d (by rw [hext, toL_ofL]; exact hd))
 clear h0 hb hd hext n0 n1 n2 n3 n4 n5 n6
 go_enter Tryz.func54, Tryz.ntmps54
 go_wp2_with (first
  | (go_at_call 50; refine (strings_HasPrefix.calls s (ofL everyL) true _ HP.out).mono ?_; rintro e w1 ⟨rfl, hb1⟩; have HB1 := Lib.hid hb1.below; clear hb1)
  | (go_at_call 90; refine (HD.out _).mono ?_; rintro e w2 ⟨rfl, hb2⟩; have HB2 := Lib.hid (below_step HB1.out hb2); clear hb2)
  | (go_at_call 91; refine (cron_Every.calls d (delayL d) _ HE.out).mono ?_; rintro e w3 ⟨rfl, hb3⟩; have HB3 := Lib.hid (below_step HB2.out hb3); clear hb3))
 go_ret2
 exact ⟨⟨_, rfl, .inr ⟨rfl, rfl⟩⟩, HB3.out⟩
theorem parseDescriptor_c (s : ByteArray) (hs : s.size ≤ 4294967200) (m : CMean) (h : DescR (toL s) m) (loc : Option Addr) (w : World) :
  Calls Tryz.prog 54 #[.string s, .pointer loc] w (DescQ m loc w) := by
 rcases h with ⟨h1, h2⟩ | ⟨h1, h2, d, h3, rfl⟩
 ·unfold describedL at h1 h2
  by_cases c0 : toL s = [64, 121, 101, 97, 114, 108, 121]
  ·rw [if_pos c0] at h2; exact yearly_c s c0 m h2 loc w
  by_cases c1 : toL s = [64, 97, 110, 110, 117, 97, 108, 108, 121]
  ·rw [if_neg c0] at h2; rw [if_pos c1] at h2; exact annually_c s c1 m h2 loc w
  by_cases c2 : toL s = [64, 109, 111, 110, 116, 104, 108, 121]
  ·rw [if_neg c0] at h2; rw [if_neg c1] at h2; rw [if_pos c2] at h2; exact monthly_c s c2 m h2 loc w
  by_cases c3 : toL s = [64, 119, 101, 101, 107, 108, 121]
  ·rw [if_neg c0] at h2; rw [if_neg c1] at h2; rw [if_neg c2] at h2; rw [if_pos c3] at h2; exact weekly_c s c3 m h2 loc w
  by_cases c4 : toL s = [64, 100, 97, 105, 108, 121]
  ·rw [if_neg c0] at h2; rw [if_neg c1] at h2; rw [if_neg c2] at h2; rw [if_neg c3] at h2; rw [if_pos c4] at h2; exact daily_c s c4 m h2 loc w
  by_cases c5 : toL s = [64, 109, 105, 100, 110, 105, 103, 104, 116]
  ·rw [if_neg c0] at h2; rw [if_neg c1] at h2; rw [if_neg c2] at h2; rw [if_neg c3] at h2; rw [if_neg c4] at h2; rw [if_pos c5] at h2; exact midnight_c s c5 m h2 loc w
  by_cases c6 : toL s = [64, 104, 111, 117, 114, 108, 121]
  ·rw [if_neg c0] at h2; rw [if_neg c1] at h2; rw [if_neg c2] at h2; rw [if_neg c3] at h2; rw [if_neg c4] at h2; rw [if_neg c5] at h2; rw [if_pos c6] at h2; exact hourly_c s c6 m h2 loc w
  rw [if_neg c0, if_neg c1, if_neg c2, if_neg c3, if_neg c4, if_neg c5, if_neg c6] at h1
  exact absurd rfl h1
 ·exact parseEvery_c s hs h1 h2 d h3 CF.zero loc w
theorem first_one {c : UInt8} : ∀ (a a' b b' : Txt), a ++ c :: b = a' ++ c :: b' → (∀ x ∈ a, x ≠ c) → (∀ x ∈ a', x ≠ c) → a = a' := by
 intro a
 induction a with
 | nil =>
  intro a' b b' h _ h'
  cases a' with
  | nil => rfl
  | cons y a' =>
   injection h with h1 _
   exact absurd h1.symm (h' y (List.mem_cons_self ..))
 | cons x a ih =>
  intro a' b b' h h1 h'
  cases a' with
  | nil =>
   injection h with h2 _
   exact absurd h2 (h1 x (List.mem_cons_self ..))
  | cons y a' =>
   injection h with h2 h3
   subst h2
   rw [ih a' b b' h3 (fun z hz => h1 z (List.mem_cons_of_mem _ hz)) (fun z hz => h' z (List.mem_cons_of_mem _ hz))]
theorem index_at (s : ByteArray) (hs : s.size ≤ 4294967296) (c : UInt8) (a b : Txt) (h : toL s = a ++ c :: b) (ha : ∀ x ∈ a, x ≠ c) : ∃ k, PzzSplit.cron_zzIndex.f k s (ofL [c]) = some (a.length : Int) := by
 rcases index_f s hs c with ⟨h1, _⟩ | ⟨a', b', h1, h2, h3⟩
 ·exact absurd rfl (h1 c (by rw [h]; simp))
 ·have := first_one a a' b b' (h.symm.trans h1) ha h2
  subst this
  exact h3.rounds
theorem blank_low {c : UInt8} (h : blank c = true) : (decide (128 ≤ c.toNat)) = false := by
 unfold blank at h
 simp at h ⊢
 omega
theorem foreign_app (a b : Txt) : foreign (a ++ b) = (foreign a || foreign b) := by unfold foreign; rw [List.any_append]
theorem foreign_blanks : ∀ l : Txt, (∀ c ∈ l, blank c = true) → foreign l = false := by
 intro l h
 unfold foreign
 rw [List.any_eq_false]
 intro c hc
 have := blank_low (h c hc)
 simpa using this
theorem foreign_trim {l : Txt} (h : foreign (trimL l) = false) : foreign l = false := by
 have e1 := List.takeWhile_append_dropWhile (p := blank) (l := l)
 have a1 := foreign_blanks _ (tw_all blank l)
 rw [← e1, foreign_app, a1, Bool.false_or]
 unfold trimL trimR at h
 generalize l.dropWhile blank = d at *
 have e2 := List.takeWhile_append_dropWhile (p := blank) (l := d.reverse)
 have a2 := foreign_blanks (d.reverse.takeWhile blank).reverse (fun c hc => tw_all blank d.reverse c (by simpa using hc))
 have e3 : d = (d.reverse.dropWhile blank).reverse ++ (d.reverse.takeWhile blank).reverse := by
  rw [← List.reverse_append, e2, List.reverse_reverse]
 rw [e3, foreign_app, h, a2]; rfl
structure PS (w : World) (o : Int) (loc : Option Addr) (u : Bool) (W : World) : Prop where
 box : W.heap[w.heap.size]? = some (.cells #[.int .i64 o] 78 (0, 0))
 below : Below w.heap.size w W
 loc : LocOk W loc u
theorem PS.goes {w : World} {o : Int} {loc : Option Addr} {u : Bool} {W W' : World} (h : PS w o loc u W) (hb : Below W.heap.size W W') : PS w o loc u W' := ⟨blk_below h.box hb, below_step h.below hb, h.loc.below hb⟩
theorem PS.cell {w : World} {o : Int} {loc : Option Addr} {u : Bool} {W : World} (h : PS w o loc u W) : W.cell? ⟨w.heap.size, 0, none⟩ = some (.int .i64 o) := blk_cell h.box 0
structure PG (w : World) (be : Nat) (loc : Option Addr) (u : Bool) (ts : Value) (l : List ByteArray) (W : World) : Prop where
 below : Below w.heap.size w W
 err : W.heap[be]? = some (.cells #[.nilIface] 84 (0, 0))
 texts : Strs W ts l
 loc : LocOk W loc u
theorem PG.goes {w : World} {be : Nat} {loc : Option Addr} {u : Bool} {ts : Value} {l : List ByteArray} {W W' : World} (h : PG w be loc u ts l W) (hb : Below W.heap.size W W') : PG w be loc u ts l W' :=
 ⟨below_step h.below hb, blk_below h.err hb, h.texts.below hb, h.loc.below hb⟩
theorem parse_split {o : Int} {s : ByteArray} {m : CMean} (h : ParseR o (toL s) m) : toL s ≠ [] ∧ ∃ (st : ByteArray) (u : Bool) (m0 : CMean), PlainR o (toL st) m0 ∧ (∀ W loc v, SchedR W m0 loc v → SchedR W m loc v) ∧ (m.every = false → m.utc = u) ∧ st.size ≤ s.size ∧
  ((zh (toL s) = 0 ∧ st = s ∧ u = false) ∨ (0 < zh (toL s) ∧ ∃ (name tail : Txt), (toL s).drop (zh (toL s)) = name ++ 32 :: tail ∧ (∀ c ∈ name, c ≠ 32) ∧ ZoneR name u ∧ foreign (32 :: tail) = false ∧ st = ofL (trimL (32 :: tail)))) := by
 rcases h with ⟨h1, h2, h3⟩ | ⟨h1, name, tail, u, m0, h2, h3, h4, h5, h6, rfl⟩
 ·refine ⟨h2, s, false, m, h3, fun _ _ _ h => h, fun he => ?_, Nat.le_refl _, .inl ⟨h1, rfl, rfl⟩⟩
  rcases h3 with ⟨_, h⟩ | ⟨_, _, h⟩
  ·obtain ⟨_, _, _, _, _, _, h⟩ := h; exact h
  ·rcases h with ⟨_, h⟩ | ⟨_, _, d, _, rfl⟩
   ·obtain ⟨_, _, _, _, _, _, h⟩ := h; exact h
   ·cases he
 ·have hne : toL s ≠ [] := fun h => by rw [h] at h1; revert h1; decide
  refine ⟨hne, ofL (trimL (32 :: tail)), u, m0, by rw [toL_ofL]; exact h6, fun _ _ _ h => h, fun he => ?_, ?_, .inr ⟨h1, name, tail, h2, fun c hc e => h3 c hc (by rw [e]; rfl), h4, foreign_trim h5, rfl⟩⟩
  ·have he : m0.every = false := he
   show (u && !m0.every) = u
   rw [he]; simp
  ·rw [ofL_size]
   have h7 := trimL_len (32 :: tail)
   have h8 := congrArg List.length h2
   rw [List.length_drop, toL_len, List.length_append] at h8
   omega
theorem zone_cut {s : ByteArray} (hs : s.size ≤ 4294967296) {name tail : Txt} (h0 : 0 < zh (toL s)) (h : (toL s).drop (zh (toL s)) = name ++ 32 :: tail) (hn : ∀ c ∈ name, c ≠ 32) :
  ∃ p q : Nat, (∃ k, PzzSplit.cron_zzIndex.f k s (ofL [32]) = some (p : Int)) ∧ (∃ k, PzzSplit.cron_zzIndex.f k s (ofL [61]) = some (q : Int)) ∧ q + 1 ≤ p ∧ p ≤ s.size ∧ s.extract (q + 1) p = ofL name ∧ s.extract p s.size = ofL (32 :: tail) := by
 have key : ∀ (z : Nat) (hd : Txt), zh (toL s) = z + 1 → (toL s).take (z + 1) = hd ++ [61] → hd.length = z → (∀ x ∈ hd, x ≠ 61) → (∀ x ∈ hd ++ [61], x ≠ 32) →
   ∃ p q : Nat, (∃ k, PzzSplit.cron_zzIndex.f k s (ofL [32]) = some (p : Int)) ∧ (∃ k, PzzSplit.cron_zzIndex.f k s (ofL [61]) = some (q : Int)) ∧ q + 1 ≤ p ∧ p ≤ s.size ∧ s.extract (q + 1) p = ofL name ∧ s.extract p s.size = ofL (32 :: tail) := by
  intro z hd hz ht hl h1 h2
  rw [hz] at h
  have hall : toL s = (hd ++ [61]) ++ (name ++ 32 :: tail) := by rw [← ht, ← h, List.take_append_drop]
  have hsz : z + 1 + name.length + 1 + tail.length = s.size := by
   have := congrArg List.length hall
   rw [toL_len] at this
   simp at this; omega
  obtain ⟨k1, hk1⟩ := index_at s hs 32 ((hd ++ [61]) ++ name) tail (by rw [hall]; simp) (fun x hx => by
   rcases List.mem_append.1 hx with hx | hx
   ·exact h2 x hx
   ·exact hn x hx)
  obtain ⟨k2, hk2⟩ := index_at s hs 61 hd (name ++ 32 :: tail) (by rw [hall]; simp) h1
  refine ⟨((hd ++ [61]) ++ name).length, hd.length, ⟨k1, hk1⟩, ⟨k2, hk2⟩, by simp <;> omega, by simp <;> omega, ?_, ?_⟩
  ·rw [extract_ofL, List.drop_take, hl, h]
   have : ((hd ++ [61]) ++ name).length - (z + 1) = name.length := by simp; omega
   rw [this, List.take_left]
  ·rw [extract_ofL, List.take_of_length_le (by rw [toL_len]; exact Nat.le_refl _)]
   have : ((hd ++ [61]) ++ name).length = (z + 1) + name.length := by simp; omega
   rw [this, ← List.drop_drop, h, List.drop_left]
 unfold zh at h0
 by_cases hb1 : begins (toL s) tzL = true
 ·obtain ⟨t1, t2⟩ := begins_take hb1
  exact key 2 [84, 90] (by unfold zh; rw [if_pos hb1]) (by rw [show tzL.length = 3 from rfl] at t1; rw [t1]; rfl) rfl (by decide) (by decide)
 ·rw [if_neg hb1] at h0
  by_cases hb2 : begins (toL s) ctzL = true
  ·obtain ⟨t1, t2⟩ := begins_take hb2
   exact key 7 [67, 82, 79, 78, 95, 84, 90] (by unfold zh; rw [if_neg hb1, if_pos hb2]) (by rw [show ctzL.length = 8 from rfl] at t1; rw [t1]; rfl) rfl (by decide) (by decide)
  ·rw [if_neg hb2] at h0; omega
theorem words_sub : ∀ (l : Txt) (p : Option Txt), ∀ x ∈ wordsL p l, ∀ c ∈ x, c ∈ p.getD [] ∨ c ∈ l := by
 intro l
 induction l with
 | nil =>
  intro p x hx c hc
  cases p with
  | none => simp [wordsL] at hx
  | some p => simp [wordsL] at hx; subst hx; exact .inl hc
 | cons y l ih =>
  intro p x hx c hc
  cases p with
  | none =>
   unfold wordsL at hx
   split at hx
   ·rcases ih none x hx c hc with h | h
    ·simp at h
    ·exact .inr (List.mem_cons_of_mem _ h)
   ·rcases ih (some [y]) x hx c hc with h | h
    ·have : c = y := by simpa using h
     exact .inr (this ▸ List.mem_cons_self ..)
    ·exact .inr (List.mem_cons_of_mem _ h)
  | some p =>
   unfold wordsL at hx
   split at hx
   ·rcases List.mem_cons.1 hx with rfl | hx
    ·exact .inl hc
    ·rcases ih none x hx c hc with h | h
     ·simp at h
     ·exact .inr (List.mem_cons_of_mem _ h)
   ·rcases ih (some (p ++ [y])) x hx c hc with h | h
    ·have : c ∈ p ∨ c = y := by simpa using h
     rcases this with h | h
     ·exact .inl h
     ·exact .inr (h ▸ List.mem_cons_self ..)
    ·exact .inr (List.mem_cons_of_mem _ h)
theorem sum_mem_le : ∀ (l : List Txt) (x : Txt), x ∈ l → x.length ≤ (l.map List.length).sum := by
 intro l
 induction l with
 | nil => intro x h; simp at h
 | cons y l ih =>
  intro x h
  rcases List.mem_cons.1 h with rfl | h
  ·simp
  ·have := ih x h; simp; omega
theorem full_mem {o mm : Int} {l : Txt} (hf : foreign l = false) : ∀ x ∈ full o mm (wordsL none l), x.length ≤ l.length + 1 ∧ foreign x = false := by
 intro x hx
 unfold full at hx
 obtain ⟨k, _, rfl⟩ := List.mem_map.1 hx
 unfold fullAt
 split
 ·rw [List.getD_eq_getElem?_getD]
  cases h : (wordsL none l)[nxt o mm k]? with
  | none => exact ⟨by simp, rfl⟩
  | some x =>
   have hm := List.mem_of_getElem? h
   refine ⟨?_, ?_⟩
   ·have h1 := sum_mem_le _ x hm
    have h2 := (wordsL_sum l none).1
    simp at h2
    simp; omega
   ·unfold foreign at hf ⊢
    rw [List.any_eq_false] at hf ⊢
    intro c hc
    rcases words_sub l none x hm c hc with h | h
    ·simp at h
    ·exact hf c h
 ·unfold dflt
  split <;> exact ⟨by simp, by decide⟩
theorem zh_bool (l : Txt) : (decide (0 < zh l)) = (begins l tzL || begins l ctzL) := by
 unfold zh
 cases begins l tzL <;> cases begins l ctzL <;> rfl
end Go.Proofs.YtcjdideliifkhaaGreatDoor
