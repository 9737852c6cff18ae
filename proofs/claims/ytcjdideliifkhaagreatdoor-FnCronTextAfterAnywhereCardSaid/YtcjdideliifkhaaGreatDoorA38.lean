import Derived.Test.YtcjdideliifkhaaGreatDoorA37
import Derived.Test.YtcjdideliifkhaaGreatDoorA11
set_option maxRecDepth 100000
set_option maxHeartbeats 16000000
namespace Go.Proofs.YtcjdideliifkhaaGreatDoor
open Go.RowKit Go.Proofs.YtcjdideliifkhaaGreatDoorW.PrintWords Go.Proofs.YtcjdideliifkhaaGreatDoorW.PrintLast Go.Proofs.YtcjdideliifkhaaGreatDoorW.PrintMore
set_option linter.unusedVariables false
set_option linter.unusedSimpArgs false
theorem pieces_none (c : UInt8) : ∀ (a pre : Txt), (∀ x ∈ a, x ≠ c) → pieces c pre a = [pre ++ a] := by
 intro a
 induction a with
 | nil => intro pre _; simp [pieces]
 | cons x a ih =>
  intro pre h
  rw [pieces, if_neg (h x (List.mem_cons_self ..)), ih _ (fun y hy => h y (List.mem_cons_of_mem _ hy))]
  simp
theorem pieces_some (c : UInt8) : ∀ (a pre b : Txt), (∀ x ∈ a, x ≠ c) → pieces c pre (a ++ c :: b) = (pre ++ a) :: pieces c [] b := by
 intro a
 induction a with
 | nil => intro pre b _; simp [pieces]
 | cons x a ih =>
  intro pre b h
  rw [List.cons_append, pieces, if_neg (h x (List.mem_cons_self ..)), ih _ _ (fun y hy => h y (List.mem_cons_of_mem _ hy))]
  simp
theorem first_c (c : UInt8) : ∀ l : Txt, (∀ x ∈ l, x ≠ c) ∨ ∃ a b, l = a ++ c :: b ∧ ∀ x ∈ a, x ≠ c := by
 intro l
 induction l with
 | nil => exact .inl (fun x hx => by simp at hx)
 | cons y l ih =>
  by_cases hy : y = c
  ·subst hy; exact .inr ⟨[], l, rfl, fun x hx => by simp at hx⟩
  ·rcases ih with h | ⟨a, b, rfl, h⟩
   ·exact .inl (fun x hx => by
     rcases List.mem_cons.1 hx with rfl | hx
     ·exact hy
     ·exact h x hx)
   ·exact .inr ⟨y :: a, b, rfl, fun x hx => by
     rcases List.mem_cons.1 hx with rfl | hx
     ·exact hy
     ·exact h x hx⟩
theorem index_l (s : ByteArray) (hs : s.size ≤ 4294967296) (c : UInt8) (p : Nat) (hp : p < s.size → (toL s)[p]? = some c) (hpe : p ≤ s.size) : ∀ (d i : Nat), i + d = p → (∀ j, i ≤ j → j < p → (toL s)[j]? ≠ some c) →
  Ev (fun k => PzzSplit.cron_zzIndex.l0 k s (ofL [c]) (i : Int)) (if p < s.size then (p : Int) else -1) := by
 intro d
 induction d with
 | zero =>
  intro i hi hn
  have hi' : i = p := by omega
  subst hi'
  have hw : wrap64 ((i : Int) + ((ofL [c]).size : Int)) = ((i + 1 : Nat) : Int) := by rw [ofL_size]; unfold wrap64; simp; omega
  by_cases h : i < s.size
  ·rw [if_pos h]
   refine Ev.step (f := fun _ => some (i : Int)) (fun k => ?_) (Ev.now _)
   simp only [PzzSplit.cron_zzIndex.l0]
   have h1 := hp h
   have h2 := List.getElem?_eq_getElem (l := toL s) (i := i) (by rw [toL_len]; exact h)
   rw [h2] at h1
   injection h1 with h1
   rw [hw, if_pos (by omega), if_pos (by omega), if_pos (by omega), Int.toNat_natCast, Int.toNat_natCast, extract_ofL, toList_toL, toList_toL, toL_ofL, toL_ofL,
    if_pos (by rw [List.take_succ_eq_append_getElem (by rw [toL_len]; exact h), List.drop_append_of_le_length (by simp; rw [toL_len]; omega), List.drop_take_self, h1]; rfl)]
  ·rw [if_neg h]
   refine Ev.step (f := fun _ => some (-1)) (fun k => ?_) (Ev.now _)
   simp only [PzzSplit.cron_zzIndex.l0]
   rw [hw, if_neg (by omega)]
 | succ d ih =>
  intro i hi hn
  have h : i < s.size := by omega
  have hw : wrap64 ((i : Int) + ((ofL [c]).size : Int)) = ((i + 1 : Nat) : Int) := by rw [ofL_size]; unfold wrap64; simp; omega
  have hw1 : wrap64 ((i : Int) + 1) = ((i + 1 : Nat) : Int) := by unfold wrap64; omega
  have h2 := List.getElem?_eq_getElem (l := toL s) (i := i) (by rw [toL_len]; exact h)
  have h3 := hn i (Nat.le_refl _) (by omega)
  refine Ev.step (fun k => ?_) (ih (i + 1) (by omega) (fun j h1 h2 => hn j (by omega) h2))
  simp only [PzzSplit.cron_zzIndex.l0]
  rw [hw, if_pos (by omega), if_pos (by omega), if_pos (by omega), Int.toNat_natCast, Int.toNat_natCast, extract_ofL, toList_toL, toList_toL, toL_ofL, toL_ofL,
   if_neg (by
    rw [List.take_succ_eq_append_getElem (by rw [toL_len]; exact h), List.drop_append_of_le_length (by simp; rw [toL_len]; omega), List.drop_take_self]
    intro e
    simp at e
    exact h3 (by rw [h2, e])), hw1]
theorem index_f (s : ByteArray) (hs : s.size ≤ 4294967296) (c : UInt8) :
  ((∀ x ∈ toL s, x ≠ c) ∧ Ev (fun k => PzzSplit.cron_zzIndex.f k s (ofL [c])) (-1)) ∨
  (∃ a b, toL s = a ++ c :: b ∧ (∀ x ∈ a, x ≠ c) ∧ Ev (fun k => PzzSplit.cron_zzIndex.f k s (ofL [c])) (a.length : Int)) := by
 rcases first_c c (toL s) with h | ⟨a, b, hab, h⟩
 ·refine .inl ⟨h, ?_⟩
  have := index_l s hs c s.size (fun h => absurd h (Nat.lt_irrefl _)) (Nat.le_refl _) s.size 0 (by omega) (fun j _ h2 e => h c (List.mem_of_getElem? e) rfl)
  rw [if_neg (Nat.lt_irrefl _)] at this
  exact this
 ·refine .inr ⟨a, b, hab, h, ?_⟩
  have hl : a.length < s.size := by have := congrArg List.length hab; rw [toL_len] at this; simp at this; omega
  have := index_l s hs c a.length (fun _ => by rw [hab]; simp) (by omega) a.length 0 (by omega) (fun j _ h2 e => by
   rw [hab, List.getElem?_append_left h2] at e
   exact h c (List.mem_of_getElem? e) rfl)
  rw [if_pos hl] at this
  exact this
theorem split_l (c : UInt8) : ∀ (n : Nat) (s : ByteArray) (acc : List ByteArray), s.size ≤ n → s.size ≤ 4294967296 → acc.length + s.size ≤ 8589934592 →
  Ev (fun k => PzzSplit.cron_zzSplit.l0 k s (ofL [c]) acc) (acc ++ (pieces c [] (toL s)).map ofL) := by
 intro n
 induction n with
 | zero =>
  intro s acc hn hs ha
  have h0 : toL s = [] := List.eq_nil_of_length_eq_zero (by rw [toL_len]; omega)
  rcases index_f s hs c with ⟨h1, h2⟩ | ⟨a, b, h1, _⟩
  ·rw [pieces_none c _ _ h1, List.nil_append]
   refine Ev.step (fun k => ?_) (Ev.bind (g := fun k => PzzSplit.cron_zzIndex.f k s (ofL [c])) (f := fun k t101 => (if t101 < 0 then (if acc.length < 8796093022208 then (some (acc ++ [s])) else (none)) else (if 0 ≤ t101 then (if t101 ≤ (s.size : Int) then (if acc.length < 8796093022208 then (if 0 ≤ (wrap64 (t101 + ((ofL [c]).size : Int))) then (if (wrap64 (t101 + ((ofL [c]).size : Int))) ≤ (s.size : Int) then (PzzSplit.cron_zzSplit.l0 k (s.extract ((wrap64 (t101 + ((ofL [c]).size : Int))) : Int).toNat s.size) (ofL [c]) (acc ++ [s.extract 0 (t101 : Int).toNat])) else (none)) else (none)) else (none)) else (none)) else (none)))) h2 (Ev.congr (f := fun _ => some (acc ++ [ofL (toL s)])) (fun k => ?_) (Ev.now _)))
   ·simp only [PzzSplit.cron_zzSplit.l0]
   ·rw [if_pos (by decide), if_pos (by omega)]; rfl
  ·rw [h0] at h1
   cases a <;> cases h1
 | succ n ih =>
  intro s acc hn hs ha
  rcases index_f s hs c with ⟨h1, h2⟩ | ⟨a, b, hab, h1, h2⟩
  ·rw [pieces_none c _ _ h1, List.nil_append]
   refine Ev.step (fun k => ?_) (Ev.bind (g := fun k => PzzSplit.cron_zzIndex.f k s (ofL [c])) (f := fun k t101 => (if t101 < 0 then (if acc.length < 8796093022208 then (some (acc ++ [s])) else (none)) else (if 0 ≤ t101 then (if t101 ≤ (s.size : Int) then (if acc.length < 8796093022208 then (if 0 ≤ (wrap64 (t101 + ((ofL [c]).size : Int))) then (if (wrap64 (t101 + ((ofL [c]).size : Int))) ≤ (s.size : Int) then (PzzSplit.cron_zzSplit.l0 k (s.extract ((wrap64 (t101 + ((ofL [c]).size : Int))) : Int).toNat s.size) (ofL [c]) (acc ++ [s.extract 0 (t101 : Int).toNat])) else (none)) else (none)) else (none)) else (none)) else (none)))) h2 (Ev.congr (f := fun _ => some (acc ++ [ofL (toL s)])) (fun k => ?_) (Ev.now _)))
   ·simp only [PzzSplit.cron_zzSplit.l0]
   ·rw [if_pos (by decide), if_pos (by omega)]; rfl
  ·have hl : a.length + b.length + 1 = s.size := by have := congrArg List.length hab; rw [toL_len] at this; simp at this; omega
   have hw : wrap64 ((a.length : Int) + ((ofL [c]).size : Int)) = ((a.length + 1 : Nat) : Int) := by rw [ofL_size]; unfold wrap64; simp; omega
   have e1 : s.extract 0 a.length = ofL a := by rw [extract_ofL, hab]; simp
   have e2 : s.extract (a.length + 1) s.size = ofL b := by
    rw [extract_ofL, List.take_of_length_le (by rw [toL_len]; exact Nat.le_refl _), hab]
    simp
   rw [hab, pieces_some c a [] b h1, List.nil_append, List.map_cons]
   have hnext := ih (ofL b) (acc ++ [ofL a]) (by rw [ofL_size]; omega) (by rw [ofL_size]; omega) (by rw [ofL_size]; simp; omega)
   rw [toL_ofL, List.append_assoc, List.singleton_append] at hnext
   refine Ev.step (fun k => ?_) (Ev.bind (g := fun k => PzzSplit.cron_zzIndex.f k s (ofL [c])) (f := fun k t101 => (if t101 < 0 then (if acc.length < 8796093022208 then (some (acc ++ [s])) else (none)) else (if 0 ≤ t101 then (if t101 ≤ (s.size : Int) then (if acc.length < 8796093022208 then (if 0 ≤ (wrap64 (t101 + ((ofL [c]).size : Int))) then (if (wrap64 (t101 + ((ofL [c]).size : Int))) ≤ (s.size : Int) then (PzzSplit.cron_zzSplit.l0 k (s.extract ((wrap64 (t101 + ((ofL [c]).size : Int))) : Int).toNat s.size) (ofL [c]) (acc ++ [s.extract 0 (t101 : Int).toNat])) else (none)) else (none)) else (none)) else (none)) else (none)))) h2 (Ev.congr (fun k => ?_) hnext))
   ·simp only [PzzSplit.cron_zzSplit.l0]
   ·rw [if_neg (by omega), if_pos (by omega), if_pos (by omega), if_pos (by omega), hw, if_pos (by omega), if_pos (by omega), Int.toNat_natCast, Int.toNat_natCast, e1, e2]
theorem split_f (c : UInt8) (s : ByteArray) (hs : s.size ≤ 4294967296) : Ev (fun k => PzzSplit.cron_zzSplit.f k s (ofL [c])) ((pieces c [] (toL s)).map ofL) := by
 have := split_l c s.size s [] (Nat.le_refl _) hs (by simp; omega)
 rw [List.nil_append] at this
 exact this
theorem split_c (c : UInt8) (s : ByteArray) (hs : s.size ≤ 4294967296) (w : World) :
  Calls Tryz.prog 122 #[.string s, .string (ofL [c])] w fun e w' => ∃ v, e = .returned v ∧ Strs w' v ((pieces c [] (toL s)).map ofL) ∧ Below w.heap.size w w' := by
 obtain ⟨k, hk⟩ := (split_f c s hs).rounds
 refine (PzzSplit.cron_zzSplit.calls k s (ofL [c]) _ w hk).mono ?_
 rintro e w' ⟨v, rfl, h1, h2⟩
 exact ⟨v, rfl, Strs.of h1, h2⟩
def BitsOf (N : Nat) (t : CSet) : Prop := N < 18446744073709551616 ∧ (∀ i, i < 63 → N.testBit i = t.has i) ∧ N.testBit 63 = t.star
theorem pieces_sub (c : UInt8) : ∀ (l pre e : Txt), e ∈ pieces c pre l → ∀ x ∈ e, x ∈ pre ∨ x ∈ l := by
 intro l
 induction l with
 | nil => intro pre e h x hx; simp [pieces] at h; subst h; exact .inl hx
 | cons y l ih =>
  intro pre e h x hx
  unfold pieces at h
  split at h
  ·rcases List.mem_cons.1 h with rfl | h
   ·exact .inl hx
   ·rcases ih [] e h x hx with h1 | h1
    ·cases h1
    ·exact .inr (List.mem_cons_of_mem _ h1)
  ·rcases ih _ e h x hx with h1 | h1
   ·rcases List.mem_append.1 h1 with h1 | h1
    ·exact .inl h1
    ·rw [List.mem_singleton] at h1; exact .inr (h1 ▸ List.mem_cons_self ..)
   ·exact .inr (List.mem_cons_of_mem _ h1)
theorem pieces_ascii {c : UInt8} {l e : Txt} (ha : foreign l = false) (h : e ∈ pieces c [] l) : foreign e = false := by
 unfold foreign at ha ⊢
 rw [List.any_eq_false] at ha ⊢
 intro x hx
 rcases pieces_sub c l [] e h x hx with h1 | h1
 ·cases h1
 ·exact ha x h1
theorem range_bits {lo hi step N : Nat} {t : CSet} (star : Bool) (h : rangeN lo hi step N) (hs : t.star = (star && decide ((step : Int) = 1))) (hh : ∀ i : Nat, i < 63 → t.has i = decide ((lo : Int) ≤ i ∧ (i : Int) ≤ hi ∧ ((i : Int) - lo) % (step : Int) = 0)) (hi63 : hi < 63) (ext : Nat) (he : ext = if star && decide (step = 1) then 9223372036854775808 else 0) :
  ∃ M : Nat, bits .or .u64 (N : Int) (ext : Int) = (M : Int) ∧ BitsOf M t := by
 have hel : ext < 2 ^ 64 := by rw [he]; split <;> decide
 rw [(bits_nat .u64 64 (by decide) wraps_u64 N ext h.1 hel).2]
 have hbit : ∀ i, ext.testBit i = (star && decide (step = 1) && decide (i = 63)) := fun i => by
  rw [he]
  split
  ·rename_i h1
   rw [h1, show (9223372036854775808 : Nat) = 2 ^ 63 from rfl, Nat.testBit_two_pow, Bool.true_and]
   rw [decide_eq_decide]; omega
  ·rename_i h1
   rw [Nat.zero_testBit]; simp at h1 ⊢; intro a b; exact absurd b (h1 a)
 refine ⟨_, rfl, Nat.or_lt_two_pow (n := 64) h.1 hel, fun i hi => ?_, ?_⟩
 ·rw [Nat.testBit_or, h.2, hbit, show decide (i = 63) = false by simp; omega, Bool.and_false, Bool.or_false, hh i hi, decide_eq_decide]
  constructor
  ·rintro ⟨a, b, c⟩
   refine ⟨by omega, by omega, ?_⟩
   have : ((i : Int) - lo) = ((i - lo : Nat) : Int) := by omega
   rw [this]; exact_mod_cast c
  ·rintro ⟨a, b, c⟩
   have e : ((i : Int) - lo) = ((i - lo : Nat) : Int) := by omega
   rw [e] at c
   exact ⟨by omega, by omega, by exact_mod_cast c⟩
 ·have e1 : decide (lo ≤ 63 ∧ 63 ≤ hi ∧ (63 - lo) % step = 0) = false := by simp; omega
  have e2 : decide ((step : Int) = 1) = decide (step = 1) := by rw [decide_eq_decide]; omega
  rw [Nat.testBit_or, h.2, hbit, hs, e1, e2]
  simp
def extN (star : Bool) : Nat := if star then 9223372036854775808 else 0
def ext2N (star : Bool) (step : Nat) : Nat := if star && decide (step = 1) then 9223372036854775808 else 0
theorem ext_one (star : Bool) : (ext2N star 1 : Int) = (extN star : Int) := by unfold ext2N extN; simp
structure GrS (kind : Int) (w : World) (m : Option Nat) (v9 v10 : Value) (ps qs : List ByteArray) (w' : World) : Prop where
 box : w'.heap[w.heap.size]? = some (.cells #[Value.int .u64 (low kind), .int .u64 (high kind), .map m] 121 (0, 0))
 names : NamesAt kind w' m
 r9 : Strs w' v9 ps
 r10 : Strs w' v10 qs
 below : Below w.heap.size w w'
theorem GrS.goes {kind : Int} {w : World} {m : Option Nat} {v9 v10 : Value} {ps qs : List ByteArray} {w' w'' : World} (h : GrS kind w m v9 v10 ps qs w') (hb : Below w'.heap.size w' w'') : GrS kind w m v9 v10 ps qs w'' :=
 ⟨blk_below h.box hb, h.names.below hb, h.r9.below hb, h.r10.below hb, below_step h.below hb⟩
def EndsP (kind : Int) (e0 : Txt) (el : List Txt) (loN hiN : Nat) (star single : Bool) : Prop :=
 ((e0 = [42] ∨ e0 = [63]) ∧ el = [] ∧ star = true ∧ single = true ∧ (loN : Int) = low kind ∧ (hiN : Int) = high kind) ∨
 (e0 ≠ [42] ∧ e0 ≠ [63] ∧ el = [] ∧ ValR kind e0 (loN : Int) ∧ loN = hiN ∧ star = false ∧ single = true) ∨
 (e0 ≠ [42] ∧ e0 ≠ [63] ∧ (∃ e2, el = [e2] ∧ ValR kind e2 (hiN : Int)) ∧ ValR kind e0 (loN : Int) ∧ star = false ∧ single = false)
theorem valR_nat {kind : Int} {l : Txt} {n : Int} (h : ValR kind l n) : ∃ k : Nat, n = k := by
 rcases h with ⟨v, rfl, _⟩ | ⟨_, _, rfl⟩
 ·exact ⟨v, rfl⟩
 ·exact ⟨_, rfl⟩
theorem low_nat (kind : Int) : ∃ k : Nat, low kind = k ∧ k ≤ 1 := by
 unfold low; repeat' split
 all_goals first | exact ⟨1, rfl, by decide⟩ | exact ⟨0, rfl, by decide⟩
theorem high_nat (kind : Int) : ∃ k : Nat, high kind = k ∧ k ≤ 59 := by
 unfold high; repeat' split
 all_goals first | exact ⟨23, rfl, by decide⟩ | exact ⟨31, rfl, by decide⟩ | exact ⟨12, rfl, by decide⟩ | exact ⟨6, rfl, by decide⟩ | exact ⟨59, rfl, by decide⟩
theorem ends_p {kind : Int} {p : Txt} {lo hi : Int} {star single : Bool} (h : EndsR kind p lo hi star single) : ∃ e0 el, pieces 45 [] p = e0 :: el ∧ ∃ loN hiN : Nat, lo = loN ∧ hi = hiN ∧ EndsP kind e0 el loN hiN star single := by
 rcases h with ⟨e, h1, h2, rfl, rfl, rfl, rfl⟩ | ⟨e, h1, h2, h3, h4, rfl, rfl, rfl⟩ | ⟨e1, e2, h1, h2, h3, h4, h5, rfl, rfl⟩
 ·obtain ⟨a, ha, _⟩ := low_nat kind
  obtain ⟨b, hb, _⟩ := high_nat kind
  exact ⟨e, [], h1, a, b, ha, hb, .inl ⟨by rcases h2 with h | ⟨h, _⟩; exact .inl h; exact .inr h, rfl, rfl, rfl, ha.symm, hb.symm⟩⟩
 ·obtain ⟨a, rfl⟩ := valR_nat h4
  exact ⟨e, [], h1, a, a, rfl, rfl, .inr (.inl ⟨h2, h3, rfl, h4, rfl, rfl, rfl⟩)⟩
 ·obtain ⟨a, rfl⟩ := valR_nat h4
  obtain ⟨b, rfl⟩ := valR_nat h5
  exact ⟨e1, [e2], h1, a, b, rfl, rfl, .inr (.inr ⟨h2, h3, ⟨e2, rfl, h5⟩, h4, rfl, rfl⟩)⟩
theorem range_c (kind : Int) (hk0 : 0 ≤ kind) (hk1 : kind ≤ 5) (s : ByteArray) (hs : s.size ≤ 4294967000) (ha : foreign (toL s) = false) (t : CSet) (ht : ItemR kind (toL s) t) (v : Value) (w : World) (hv : BndAt kind w v) :
  Calls Tryz.prog 96 #[.string s, v] w fun e w' => (∃ N : Nat, e = .returned (.tuple #[.int .u64 (N : Int), .nilIface]) ∧ BitsOf N t) ∧ Below w.heap.size w w' := by
 obtain ⟨m, rfl, hnm⟩ := hv.names
 clear hv
 obtain ⟨lo, hi, star, single, step, hi', hcase, b1, b2, b3, hstar, hhas⟩ := ht
 have hpq : ∃ p ql, pieces 47 [] (toL s) = p :: ql ∧ EndsR kind p lo hi star single ∧ ((ql = [] ∧ step = 1 ∧ hi' = hi) ∨ (∃ q1, ql = [q1] ∧ Digits q1 ∧ step = (val q1 : Nat) ∧ 0 < step ∧ step < 1099511627776 ∧ hi' = if single && !star then high kind else hi)) := by
  rcases hcase with ⟨p, h1, h2, h3, h4⟩ | ⟨p, q, h1, h2, h3, h4, h5, h6, h7⟩
  ·exact ⟨p, [], h1, h2, .inl ⟨rfl, h3, h4⟩⟩
  ·exact ⟨p, [q], h1, h2, .inr ⟨q, rfl, h3, h4, h5, h6, h7⟩⟩
 clear hcase
 obtain ⟨p0, ql, hps, hE, hT⟩ := hpq
 obtain ⟨e0, el, hqs, loN, hiN, rfl, rfl, hEP⟩ := ends_p hE
 clear hE
 have hmem := fun e h => pieces_mem_len 47 (toL s) e h
 have hasc := fun e h => pieces_ascii (c := 47) (e := e) ha h
 rw [hps, toL_len] at hmem
 rw [hps] at hasc
 have hp0 := hmem p0 (List.mem_cons_self ..)
 have ha0 := hasc p0 (List.mem_cons_self ..)
 have hmem2 := fun e h => pieces_mem_len 45 p0 e h
 have hasc2 := fun e h => pieces_ascii (c := 45) (e := e) ha0 h
 rw [hqs] at hmem2 hasc2
 have hsp1 := fun w => split_c 47 s (by omega) w
 have hsp2 := fun w => split_c 45 (ofL p0) (by rw [ofL_size]; omega) w
 rw [hps] at hsp1
 rw [toL_ofL, hqs] at hsp2
 have HSP1 := Lib.hid hsp1
 have HSP2 := Lib.hid hsp2
 have HEP := Lib.hid hEP
 have HT := Lib.hid hT
 have HMEM := Lib.hid hmem
 have HMEM2 := Lib.hid hmem2
 have HASC2 := Lib.hid hasc2
 have HSTAR := Lib.hid hstar
 have HHAS := Lib.hid hhas
 have HNM := Lib.hid hnm
 obtain ⟨lowN, hlow, hlow1⟩ := low_nat kind
 obtain ⟨highN, hhigh, hhigh1⟩ := high_nat kind
 have HLOW := Lib.hid hlow
 have HHIGH := Lib.hid hhigh
 clear hsp1 hsp2 hEP hT hmem hmem2 hasc hasc2 hstar hhas hnm hps hqs hlow hhigh
 have hbox : ∀ v9 v10 ps qs w', Strs w' v9 ps → Strs w' v10 qs → Below (w.heap.size + 1) (w.alloc (.cells #[.int .u64 (low kind), .int .u64 (high kind), .map m] 121)) w' → GrS kind w m v9 v10 ps qs w' := fun v9 v10 ps qs w' h1 h2 h3 => by
  have hb1 : Below w.heap.size w (w.alloc (.cells #[.int .u64 (low kind), .int .u64 (high kind), .map m] 121)) := below_alloc (Below.refl _ _) _
  have h3' : Below (w.alloc (.cells #[.int .u64 (low kind), .int .u64 (high kind), .map m] 121)).heap.size (w.alloc (.cells #[.int .u64 (low kind), .int .u64 (high kind), .map m] 121)) w' := by simpa using h3
  exact ⟨blk_below (blk_new w _) h3', (HNM.out.below hb1).below h3', h1, h2, below_step hb1 h3'⟩
 have HBOX := Lib.hid hbox
 clear hbox
 go_enter Tryz.func96, Tryz.ntmps96
 go_upto_region 3 with (go_at_call 122; refine (HSP1.out _).mono ?_; rintro e w2 ⟨v9, rfl, hS9, hb2⟩; have hb2' : Below (w.heap.size + 1) (w.alloc (.cells #[.int .u64 (low kind), .int .u64 (high kind), .map m] 121)) w2 := (by simpa using hb2); have HB2 := Lib.hid hb2'; have HS9 := Lib.hid hS9; clear hb2 hb2' hS9)
 obtain ⟨A9, c9, rfl, hrow9⟩ := HS9.out
 obtain ⟨ad9, rfl, h90⟩ := hrow9 0 (by simp)
 rw [Addr.add_zero'] at h90
 rw [show ((p0 :: ql).map ofL)[0] = ofL p0 from rfl] at h90
 have hln9 : 0 < ((p0 :: ql).map ofL).length := by simp
 have hln9' : ((p0 :: ql).map ofL).length = ql.length + 1 := by simp
 have HLN9 := Lib.hid hln9'
 have HH9 := Lib.hid h90
 clear hrow9 hln9'
 generalize hn9 : ((p0 :: ql).map ofL).length = n9 at *
 clear hn9
 go_upto_region 4 with (go_at_call 122; refine (HSP2.out _).mono ?_; rintro e w3 ⟨v10, rfl, hS10, hb3⟩; have HS10 := Lib.hid hS10; have HS9' := Lib.hid (HS9.out.below hb3); have HB3 := Lib.hid (HB2.out.trans (hb3.mono (by have := HB2.out.size; simp at this; omega))); clear hS10 hb3)
 obtain ⟨A10, c2, rfl, hrow10⟩ := HS10.out
 obtain ⟨ad, rfl, h100⟩ := hrow10 0 (by simp)
 rw [Addr.add_zero'] at h100
 rw [show ((e0 :: el).map ofL)[0] = ofL e0 from rfl] at h100
 have hln10 : 0 < ((e0 :: el).map ofL).length := by simp
 have hln10' : ((e0 :: el).map ofL).length = el.length + 1 := by simp
 have HLN10 := Lib.hid hln10'
 have HC := Lib.hid h100
 have HR10 := Lib.hid (show ∀ x, el = [x] → w3.cell? (ad.add 1) = some (.string (ofL x)) from fun x hx => by
  subst hx
  obtain ⟨ad', e, h1⟩ := hrow10 1 (by simp)
  cases e
  exact h1)
 have HS := Lib.hid (HBOX.out _ _ _ _ _ HS9'.out HS10.out HB3.out)
 clear hrow10 hln10' HBOX HB2 HB3 HS9 HSP1 HSP2 HH9 h90 h100
 generalize hn10 : ((e0 :: el).map ofL).length = n2 at *
 clear hn10
 obtain ⟨ps, hps⟩ : ∃ ps, ps = (p0 :: ql).map ofL := ⟨_, rfl⟩
 have HPS := Lib.hid hps
 rw [← hps] at HS
 clear hps
 generalize (e0 :: el).map ofL = qs at *
 have hc0 := HC.out
 go_upto_region 7 with (fail)
 go_cut [32] (fun v32 wc => v32 = .bool star ∧ GrS kind w m (.slice (some ad9) n9 c9) (.slice (some ad) n2 c2) ps qs wc ∧ wc.cell? ad = some (.string (ofL e0)) ∧ (∀ x, el = [x] → wc.cell? (ad.add 1) = some (.string (ofL x))))
 case first =>
  rcases HEP.out with ⟨he, h2, rfl, h4, hlo, hhi⟩ | ⟨he1, he2, h3, hv0, h4, rfl, h5⟩ | ⟨he1, he2, h3, hv0, rfl, h5⟩
  ·clear h2 h4 hlo hhi
   rcases he with rfl | rfl
   ·have h42 : ((ofL [42]).toList == ([42] : List UInt8)) = true := by rw [toList_toL]; rfl
    go_wp2
    go_meet
    case rel => exact ⟨rfl, HS.out, HC.out, HR10.out⟩
   ·have h42 : ((ofL [63]).toList == ([42] : List UInt8)) = false := by rw [toList_toL]; rfl
    have h63 : ((ofL [63]).toList == ([63] : List UInt8)) = true := by rw [toList_toL]; rfl
    go_wp2
    go_meet
    case rel => exact ⟨rfl, HS.out, HC.out, HR10.out⟩
  ·have h42 : ((ofL e0).toList == ([42] : List UInt8)) = false := by rw [toList_toL, toL_ofL]; simpa using he1
   have h63 : ((ofL e0).toList == ([63] : List UInt8)) = false := by rw [toList_toL, toL_ofL]; simpa using he2
   clear he1 he2 h3 hv0 h4 h5
   go_wp2
   go_meet
   case rel => exact ⟨rfl, HS.out, HC.out, HR10.out⟩
  ·have h42 : ((ofL e0).toList == ([42] : List UInt8)) = false := by rw [toList_toL, toL_ofL]; simpa using he1
   have h63 : ((ofL e0).toList == ([63] : List UInt8)) = false := by rw [toList_toL, toL_ofL]; simpa using he2
   clear he1 he2 h3 hv0 h5
   go_wp2
   go_meet
   case rel => exact ⟨rfl, HS.out, HC.out, HR10.out⟩
 case rest =>
  obtain ⟨rfl, hS, hC, hR⟩ := hcut
  clear HS HC HR10 hc0
  have HS := Lib.hid hS
  have HC := Lib.hid hC
  have HR := Lib.hid hR
  clear hS hC hR
  have hsg : ((n2 : Int) == 1) = single := by
   have h9 := HLN10.out
   rcases HEP.out with ⟨_, h1, _, h2, _⟩ | ⟨_, _, h1, _, _, _, h2⟩ | ⟨_, _, ⟨e2, h1, _⟩, _, _, h2⟩
   ·rw [h2]; rw [h1] at h9; simp at h9 ⊢; omega
   ·rw [h2]; rw [h1] at h9; simp at h9 ⊢; omega
   ·rw [h2]; rw [h1] at h9; simp at h9 ⊢; omega
  have HSG := Lib.hid hsg
  clear hsg
  go_upto_if 32 with (fail)
  go_cut [6, 7, 11, 12, 13] (fun v6 v7 v11 v12 v13 wc => v6 = .int .u64 (loN : Int) ∧ v7 = .int .u64 (hiN : Int) ∧ v11 = .bool single ∧ v12 = .nilIface ∧ v13 = .int .u64 (extN star : Int) ∧ GrS kind w m (.slice (some ad9) n9 c9) (.slice (some ad) n2 c2) ps qs wc)
  case first =>
   rcases HEP.out with ⟨he, rfl, rfl, rfl, hlo, hhi⟩ | ⟨he1, he2, rfl, hv0, rfl, rfl, rfl⟩ | ⟨he1, he2, ⟨e2, rfl, hv2⟩, hv0, rfl, rfl⟩
   ·have c0 : wc.cell? ⟨w.heap.size, 0, none⟩ = some (.int .u64 (loN : Int)) := by rw [hlo]; exact (blk_cell HS.out.box 0).trans rfl
    have c1 : wc.cell? ⟨w.heap.size, 1, none⟩ = some (.int .u64 (hiN : Int)) := by rw [hhi]; exact (blk_cell HS.out.box 1).trans rfl
    have hu121 := Tryz.underlying121
    clear he hlo hhi
    go_wp2
    go_meet
    case rel => exact ⟨rfl, rfl, congrArg Value.bool HSG.out, rfl, rfl, HS.out⟩
   ·obtain rfl : n2 = 1 := HLN10.out
    have HV := Lib.hid (fun w' (h : NamesAt kind w' m) => intOrName_c kind (ofL e0) (by rw [ofL_size]; have := HMEM2.out e0 (List.mem_cons_self ..); omega) (HASC2.out e0 (List.mem_cons_self ..)) (loN : Int) hv0 (by have := HHIGH.out; omega) m w' h)
    clear he1 he2 hv0
    go_upto_region 11 with (fail)
    refine wp_region_det (F := ?F1) (by kernel_rfl) 114 rfl 11 [(38, .slice (some ad) 1 c2), (39, .pointer (some (ad))), (40, .string (ofL e0)), (41, .pointer (some ⟨w.heap.size, 2, none⟩)), (42, .map m), (43, .tuple #[.int .u64 (loN : Int), .nilIface]), (37, .tuple #[.int .u64 (loN : Int), .nilIface]), (44, .int .u64 (loN : Int)), (45, .nilIface), (6, .int .u64 (loN : Int)), (12, .nilIface)] ?hF1 (by kernel_rfl) (fun w' => GrS kind w m (.slice (some ad9) n9 c9) (.slice (some ad) 1 c2) ps qs w' ∧ w'.cell? (ad) = some (.string (ofL e0))) (fun w1 w' h hb => ⟨h.1.goes hb, pw_cell_below hb h.2⟩) ⟨HS.out.goes (Below.refl _ _).drew, HC.out⟩ ?_ ?_
    case hF1 =>
     simp only [List.foldl_cons, List.foldl_nil, List.setIfInBounds_toArray, List.set_cons_zero, List.set_cons_succ]
     rfl
    ·and_intros
     all_goals first | intro _ w1 hs' | exact trivial
     all_goals
      have z0 := hs'.2
      have hu121 := Tryz.underlying121
      have z2 : w1.cell? ⟨w.heap.size, 2, none⟩ = some (.map m) := (blk_cell hs'.1.box 2).trans rfl
      have hb := Below.refl w1.heap.size w1
      change Oper.wp _ _ _ _ _ _
      go_simp
     ·refine (HV.out _ hs'.1.names).mono ?_
      rintro r w4 ⟨rfl, hb4⟩
      exact ⟨rfl, hb4⟩
    ·intro w4 hs'
     show Exit.then _ _ .normal _ w4
     have HS4 := Lib.hid hs'.1
     clear hs'
     clear HS HC HV
     go_wp2
     go_meet
     case rel => exact ⟨rfl, rfl, rfl, rfl, rfl, HS4.out⟩
   ·obtain rfl : n2 = 2 := HLN10.out
    have hhb : (hiN : Int) < 1099511627776 := by
     rcases HT.out with ⟨_, _, h⟩ | ⟨_, _, _, _, _, _, h⟩
     ·have := HHIGH.out; omega
     ·have := HHIGH.out; simp at h; omega
    have HV := Lib.hid (fun w' (h : NamesAt kind w' m) => intOrName_c kind (ofL e0) (by rw [ofL_size]; have := HMEM2.out e0 (List.mem_cons_self ..); omega) (HASC2.out e0 (List.mem_cons_self ..)) (loN : Int) hv0 (by have := HHIGH.out; omega) m w' h)
    have HV2 := Lib.hid (fun w' (h : NamesAt kind w' m) => intOrName_c kind (ofL e2) (by rw [ofL_size]; have := HMEM2.out e2 (by simp); omega) (HASC2.out e2 (by simp)) (hiN : Int) hv2 hhb m w' h)
    clear he1 he2 hv0 hv2
    have HC := Lib.hid (show wc.cell? ad = some (.string (ofL e0)) ∧ wc.cell? (ad.add 1) = some (.string (ofL e2)) from ⟨HC.out, HR.out e2 rfl⟩)
    go_upto_region 11 with (fail)
    refine wp_region_det (F := ?F2) (by kernel_rfl) 114 rfl 11 [(38, .slice (some ad) 2 c2), (39, .pointer (some (ad))), (40, .string (ofL e0)), (41, .pointer (some ⟨w.heap.size, 2, none⟩)), (42, .map m), (43, .tuple #[.int .u64 (loN : Int), .nilIface]), (37, .tuple #[.int .u64 (loN : Int), .nilIface]), (44, .int .u64 (loN : Int)), (45, .nilIface), (6, .int .u64 (loN : Int)), (12, .nilIface)] ?hF2 (by kernel_rfl) (fun w' => GrS kind w m (.slice (some ad9) n9 c9) (.slice (some ad) 2 c2) ps qs w' ∧ w'.cell? (ad) = some (.string (ofL e0)) ∧ w'.cell? (ad.add 1) = some (.string (ofL e2))) (fun w1 w' h hb => ⟨h.1.goes hb, ⟨pw_cell_below hb h.2.1, pw_cell_below hb h.2.2⟩⟩) ⟨HS.out.goes (Below.refl _ _).drew, HC.out⟩ ?_ ?_
    case hF2 =>
     simp only [List.foldl_cons, List.foldl_nil, List.setIfInBounds_toArray, List.set_cons_zero, List.set_cons_succ]
     rfl
    ·and_intros
     all_goals first | intro _ w1 hs' | exact trivial
     all_goals
      have z0 := hs'.2.1
      have hu121 := Tryz.underlying121
      have z2 : w1.cell? ⟨w.heap.size, 2, none⟩ = some (.map m) := (blk_cell hs'.1.box 2).trans rfl
      have hb := Below.refl w1.heap.size w1
      change Oper.wp _ _ _ _ _ _
      go_simp
     ·refine (HV.out _ hs'.1.names).mono ?_
      rintro r w4 ⟨rfl, hb4⟩
      exact ⟨rfl, hb4⟩
    ·intro w4 hs'
     show Exit.then _ _ .normal _ w4
     have HS4 := Lib.hid hs'.1
     have HC2 := Lib.hid hs'.2.2
     clear hs'
     clear HS HC HV
     have HS := HS4
     have HV := HV2
     have HC := HC2
     clear HS4 HV2 HC2
     go_upto_region 19 with (fail)
     refine wp_region_det (F := ?F3) (by kernel_rfl) 114 rfl 11 [(58, .slice (some ad) 2 c2), (59, .pointer (some (ad.add 1))), (60, .string (ofL e2)), (61, .pointer (some ⟨w.heap.size, 2, none⟩)), (62, .map m), (63, .tuple #[.int .u64 (hiN : Int), .nilIface]), (57, .tuple #[.int .u64 (hiN : Int), .nilIface]), (64, .int .u64 (hiN : Int)), (65, .nilIface), (7, .int .u64 (hiN : Int)), (12, .nilIface)] ?hF3 (by kernel_rfl) (fun w' => GrS kind w m (.slice (some ad9) n9 c9) (.slice (some ad) 2 c2) ps qs w' ∧ w'.cell? (ad.add 1) = some (.string (ofL e2))) (fun w1 w' h hb => ⟨h.1.goes hb, pw_cell_below hb h.2⟩) ⟨HS.out.goes (Below.refl _ _).drew, HC.out⟩ ?_ ?_
     case hF3 =>
      simp only [List.foldl_cons, List.foldl_nil, List.setIfInBounds_toArray, List.set_cons_zero, List.set_cons_succ]
      rfl
     ·and_intros
      all_goals first | intro _ w1 hs' | exact trivial
      all_goals
       have z0 : w1.cell? ⟨ad.block, ad.off + 1, none⟩ = some (.string (ofL e2)) := hs'.2
       have hu121 := Tryz.underlying121
       have z2 : w1.cell? ⟨w.heap.size, 2, none⟩ = some (.map m) := (blk_cell hs'.1.box 2).trans rfl
       have hb := Below.refl w1.heap.size w1
       change Oper.wp _ _ _ _ _ _
       go_simp
      ·refine (HV.out _ hs'.1.names).mono ?_
       rintro r w4 ⟨rfl, hb4⟩
       exact ⟨rfl, hb4⟩
     ·intro w4 hs'
      show Exit.then _ _ .normal _ w4
      have HS4 := Lib.hid hs'.1
      clear hs'
      clear HS HC HV
      go_wp2
      go_meet
      case rel => exact ⟨rfl, rfl, rfl, rfl, rfl, HS4.out⟩
  case rest =>
   obtain ⟨rfl, rfl, rfl, rfl, rfl, hS⟩ := hcut
   clear HS HC HR
   have HS := Lib.hid hS
   have hend : ∃ (E stepN : Nat), hi' = E ∧ step = stepN ∧ 0 < stepN ∧ stepN < 1099511627776 ∧ ((ql = [] ∧ stepN = 1 ∧ E = hiN) ∨ (∃ q1, ql = [q1] ∧ Digits q1 ∧ stepN = val q1 ∧ E = if single then highN else hiN)) := by
    rcases HT.out with ⟨h1, h2, h3⟩ | ⟨q1, h1, h2, h3, h4, h5, h6⟩
    ·exact ⟨hiN, 1, h3, h2, by decide, by decide, .inl ⟨h1, rfl, rfl⟩⟩
    ·have hh := HHIGH.out
     refine ⟨if single then highN else hiN, val q1, ?_, h3, by omega, by omega, .inr ⟨q1, h1, h2, rfl, rfl⟩⟩
     rw [h6]
     rcases HEP.out with ⟨_, _, h7, h8, _, h9⟩ | ⟨_, _, _, _, _, h7, h8⟩ | ⟨_, _, _, _, h7, h8⟩
     ·rw [h7, h8]; simp; omega
     ·rw [h7, h8]; simp; omega
     ·rw [h7, h8]; simp
   obtain ⟨E, stepN, rfl, rfl, hst0, hst1, hql⟩ := hend
   have HQL := Lib.hid hql
   clear hS hql HEP HT
   go_upto_block 1 with (fail)
   go_cut [7, 8, 12, 13] (fun v7 v8 v12 v13 wc => v7 = .int .u64 (E : Int) ∧ v8 = .int .u64 (stepN : Int) ∧ v12 = .nilIface ∧ v13 = .int .u64 (ext2N star stepN : Int) ∧ GrS kind w m (.slice (some ad9) n9 c9) (.slice (some ad) n2 c2) ps qs wc)
   case first =>
    rcases HQL.out with ⟨rfl, rfl, rfl⟩ | ⟨q1, rfl, hdg, hsv, hE⟩
    ·obtain rfl : n9 = 1 := HLN9.out
     have HX := Lib.hid (ext_one star)
     go_wp2
     go_meet
     case rel => exact ⟨rfl, rfl, rfl, congrArg (Value.int .u64) HX.out.symm, HS.out⟩
    ·obtain rfl : n9 = 2 := HLN9.out
     have hc1 : wc.cell? ⟨ad9.block, ad9.off + 1, none⟩ = some (.string (ofL q1)) := by
      have h9 := HS.out.r9
      rw [HPS.out] at h9
      obtain ⟨A', c', e', hr'⟩ := h9
      injection e' with e1 e2 e3
      obtain ⟨ad', e4, h1⟩ := hr' 1 (by simp)
      rw [← e1] at e4
      cases e4
      exact h1
     have HI := Lib.hid (fun w => mustInt_c (ofL q1) (by rw [ofL_size]; have := HMEM.out q1 (by simp); omega) hdg (by rw [toL_ofL]; omega) w)
     rw [toL_ofL, ← hsv] at HI
     have hend : ∀ wd, GrS kind w m (.slice (some ad9) 2 c9) (.slice (some ad) n2 c2) ps qs wd → wd.cell? ⟨w.heap.size, 1, none⟩ = some (.int .u64 (highN : Int)) := fun wd h => by
      rw [← HHIGH.out]; exact (blk_cell h.box 1).trans rfl
     have HEND := Lib.hid hend
     have HE := Lib.hid hE
     have hu121 := Tryz.underlying121
     clear hdg hsv hend hE
     by_cases h1 : stepN ≤ 1
     ·have hs1 : stepN = 1 := by omega
      have hd : decide ((1 : Int) < (stepN : Int)) = false := by simp; omega
      have HX := Lib.hid (show (ext2N star stepN : Int) = (extN star : Int) by rw [hs1]; exact ext_one star)
      clear hs1
      cases single with
      | true =>
       go_wp2_with (go_at_call 124; refine (HI.out _).mono ?_; rintro e w5 ⟨rfl, hb5⟩; have HS5 := Lib.hid (HS.out.goes hb5); have hce := HEND.out _ HS5.out; clear hb5)
       go_meet
       case rel => exact ⟨congrArg (fun x : Nat => Value.int .u64 (x : Int)) HE.out.symm, rfl, rfl, congrArg (Value.int .u64) HX.out.symm, HS5.out⟩
      | false =>
       go_wp2_with (go_at_call 124; refine (HI.out _).mono ?_; rintro e w5 ⟨rfl, hb5⟩; have HS5 := Lib.hid (HS.out.goes hb5); have hce := HEND.out _ HS5.out; clear hb5)
       go_meet
       case rel => exact ⟨congrArg (fun x : Nat => Value.int .u64 (x : Int)) HE.out.symm, rfl, rfl, congrArg (Value.int .u64) HX.out.symm, HS5.out⟩
     ·have hd : decide ((1 : Int) < (stepN : Int)) = true := by simp; omega
      have HX := Lib.hid (show (ext2N star stepN : Int) = 0 by unfold ext2N; rw [show decide (stepN = 1) = false by simp; omega]; simp)
      cases single with
      | true =>
       go_wp2_with (go_at_call 124; refine (HI.out _).mono ?_; rintro e w5 ⟨rfl, hb5⟩; have HS5 := Lib.hid (HS.out.goes hb5); have hce := HEND.out _ HS5.out; clear hb5)
       go_meet
       case rel => exact ⟨congrArg (fun x : Nat => Value.int .u64 (x : Int)) HE.out.symm, rfl, rfl, congrArg (Value.int .u64) HX.out.symm, HS5.out⟩
      | false =>
       go_wp2_with (go_at_call 124; refine (HI.out _).mono ?_; rintro e w5 ⟨rfl, hb5⟩; have HS5 := Lib.hid (HS.out.goes hb5); have hce := HEND.out _ HS5.out; clear hb5)
       go_meet
       case rel => exact ⟨congrArg (fun x : Nat => Value.int .u64 (x : Int)) HE.out.symm, rfl, rfl, congrArg (Value.int .u64) HX.out.symm, HS5.out⟩
   case rest =>
    obtain ⟨rfl, rfl, rfl, rfl, hS⟩ := hcut
    clear HS
    have HS := Lib.hid hS
    have hu121 := Tryz.underlying121
    have c0 : wc.cell? ⟨w.heap.size, 0, none⟩ = some (.int .u64 (lowN : Int)) := by rw [← HLOW.out]; exact (blk_cell hS.box 0).trans rfl
    have c1 : wc.cell? ⟨w.heap.size, 1, none⟩ = some (.int .u64 (highN : Int)) := by rw [← HHIGH.out]; exact (blk_cell hS.box 1).trans rfl
    have g1 : lowN ≤ loN := by have := HLOW.out; omega
    have g2 : E ≤ highN := by have := HHIGH.out; omega
    have g3 : loN ≤ E := by omega
    have hne : ((stepN : Int) == 0) = false := by simp; omega
    have HG := Lib.hid (fun w => getBits_c loN E stepN g3 (by omega) hst0 (by omega) w)
    clear hS b1 b2 b3 HQL HLN9 HLN10
    have HRB := Lib.hid (fun N (h : rangeN loN E stepN N) => range_bits (t := t) star h (by rw [HSTAR.out]) (fun i hi => HHAS.out i hi) (by omega) (ext2N star stepN) rfl)
    clear HSTAR HHAS
    generalize ext2N star stepN = ext at *
    go_wp2_with (go_at_call 117; refine (HG.out _).mono ?_; rintro e w5 ⟨N, rfl, hN, rfl⟩; have HM := HRB.out N hN; clear hN)
    go_ret2
    obtain ⟨M, hM, hB⟩ := HM
    exact ⟨⟨M, by rw [← hM]; rfl, hB⟩, HS.out.below⟩
end Go.Proofs.YtcjdideliifkhaaGreatDoor
