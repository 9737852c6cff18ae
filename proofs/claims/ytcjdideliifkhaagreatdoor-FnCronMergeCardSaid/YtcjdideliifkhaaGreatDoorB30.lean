import Derived.Test.YtcjdideliifkhaaGreatDoorB29
set_option maxRecDepth 100000
set_option maxHeartbeats 16000000
namespace Go.Proofs.YtcjdideliifkhaaGreatDoor
open Go.RowKit Go.Proofs.YtcjdideliifkhaaGreatDoorW.PrintWords Go.Proofs.YtcjdideliifkhaaGreatDoorW.PrintLast Go.Proofs.YtcjdideliifkhaaGreatDoorW.PrintMore
set_option linter.unusedVariables false
set_option linter.unusedSimpArgs false
def BitsOf (N : Nat) (t : CSet) : Prop := N < 18446744073709551616 ∧ (∀ i, i < 63 → N.testBit i = t.has i) ∧ N.testBit 63 = t.star
theorem pieces_sub (c : UInt8) : ∀ (l pre e : Txt), e ∈ pieces c pre l → ∀ x ∈ e, x ∈ pre ∨ x ∈ l := by
 intro l
 induction l with
 | nil => intro pre e h x hx; simp [pieces] at h; subst h; exact .inl hx
 | cons y l ih =>
  intro pre e h x hx
  unfold pieces at h
  split at h
  ·rcases List.mem_cons.1 h with rfl | h
   ·exact .inl hx
   ·rcases ih [] e h x hx with h1 | h1
    ·cases h1
    ·exact .inr (List.mem_cons_of_mem _ h1)
  ·rcases ih _ e h x hx with h1 | h1
   ·rcases List.mem_append.1 h1 with h1 | h1
    ·exact .inl h1
    ·rw [List.mem_singleton] at h1; exact .inr (h1 ▸ List.mem_cons_self ..)
   ·exact .inr (List.mem_cons_of_mem _ h1)
theorem pieces_ascii {c : UInt8} {l e : Txt} (ha : foreign l = false) (h : e ∈ pieces c [] l) : foreign e = false := by
 unfold foreign at ha ⊢
 rw [List.any_eq_false] at ha ⊢
 intro x hx
 rcases pieces_sub c l [] e h x hx with h1 | h1
 ·cases h1
 ·exact ha x h1
theorem range_bits {lo hi step N : Nat} {t : CSet} (star : Bool) (h : rangeN lo hi step N) (hs : t.star = (star && decide ((step : Int) = 1))) (hh : ∀ i : Nat, i < 63 → t.has i = decide ((lo : Int) ≤ i ∧ (i : Int) ≤ hi ∧ ((i : Int) - lo) % (step : Int) = 0)) (hi63 : hi < 63) (ext : Nat) (he : ext = if star && decide (step = 1) then 9223372036854775808 else 0) :
  ∃ M : Nat, bits .or .u64 (N : Int) (ext : Int) = (M : Int) ∧ BitsOf M t := by
 have hel : ext < 2 ^ 64 := by rw [he]; split <;> decide
 rw [(bits_nat .u64 64 (by decide) wraps_u64 N ext h.1 hel).2]
 have hbit : ∀ i, ext.testBit i = (star && decide (step = 1) && decide (i = 63)) := fun i => by
  rw [he]
  split
  ·rename_i h1
   rw [h1, show (9223372036854775808 : Nat) = 2 ^ 63 from rfl, Nat.testBit_two_pow, Bool.true_and]
   rw [decide_eq_decide]; omega
  ·rename_i h1
   rw [Nat.zero_testBit]; simp at h1 ⊢; intro a b; exact absurd b (h1 a)
 refine ⟨_, rfl, Nat.or_lt_two_pow (n := 64) h.1 hel, fun i hi => ?_, ?_⟩
 ·rw [Nat.testBit_or, h.2, hbit, show decide (i = 63) = false by simp; omega, Bool.and_false, Bool.or_false, hh i hi, decide_eq_decide]
  constructor
  ·rintro ⟨a, b, c⟩
   refine ⟨by omega, by omega, ?_⟩
   have : ((i : Int) - lo) = ((i - lo : Nat) : Int) := by omega
   rw [this]; exact_mod_cast c
  ·rintro ⟨a, b, c⟩
   have e : ((i : Int) - lo) = ((i - lo : Nat) : Int) := by omega
   rw [e] at c
   exact ⟨by omega, by omega, by exact_mod_cast c⟩
 ·have e1 : decide (lo ≤ 63 ∧ 63 ≤ hi ∧ (63 - lo) % step = 0) = false := by simp; omega
  have e2 : decide ((step : Int) = 1) = decide (step = 1) := by rw [decide_eq_decide]; omega
  rw [Nat.testBit_or, h.2, hbit, hs, e1, e2]
  simp
def extN (star : Bool) : Nat := if star then 9223372036854775808 else 0
def ext2N (star : Bool) (step : Nat) : Nat := if star && decide (step = 1) then 9223372036854775808 else 0
theorem ext_one (star : Bool) : (ext2N star 1 : Int) = (extN star : Int) := by unfold ext2N extN; simp
structure GrS (kind : Int) (w : World) (m : Option Nat) (v9 v10 : Value) (ps qs : List ByteArray) (w' : World) : Prop where
 box : w'.heap[w.heap.size]? = some (.cells #[Value.int .u64 (low kind), .int .u64 (high kind), .map m] 121 (0, 0))
 names : NamesAt kind w' m
 r9 : Strs w' v9 ps
 r10 : Strs w' v10 qs
 below : Below w.heap.size w w'
theorem GrS.goes {kind : Int} {w : World} {m : Option Nat} {v9 v10 : Value} {ps qs : List ByteArray} {w' w'' : World} (h : GrS kind w m v9 v10 ps qs w') (hb : Below w'.heap.size w' w'') : GrS kind w m v9 v10 ps qs w'' :=
 ⟨blk_below h.box hb, h.names.below hb, h.r9.below hb, h.r10.below hb, below_step h.below hb⟩
def EndsP (kind : Int) (e0 : Txt) (el : List Txt) (loN hiN : Nat) (star single : Bool) : Prop :=
 ((e0 = [42] ∨ e0 = [63]) ∧ el = [] ∧ star = true ∧ single = true ∧ (loN : Int) = low kind ∧ (hiN : Int) = high kind) ∨
 (e0 ≠ [42] ∧ e0 ≠ [63] ∧ el = [] ∧ ValR kind e0 (loN : Int) ∧ loN = hiN ∧ star = false ∧ single = true) ∨
 (e0 ≠ [42] ∧ e0 ≠ [63] ∧ (∃ e2, el = [e2] ∧ ValR kind e2 (hiN : Int)) ∧ ValR kind e0 (loN : Int) ∧ star = false ∧ single = false)
theorem valR_nat {kind : Int} {l : Txt} {n : Int} (h : ValR kind l n) : ∃ k : Nat, n = k := by
 rcases h with ⟨v, rfl, _⟩ | ⟨_, _, rfl⟩
 ·exact ⟨v, rfl⟩
 ·exact ⟨_, rfl⟩
theorem low_nat (kind : Int) : ∃ k : Nat, low kind = k ∧ k ≤ 1 := by
 unfold low; repeat' split
 all_goals first | exact ⟨1, rfl, by decide⟩ | exact ⟨0, rfl, by decide⟩
theorem high_nat (kind : Int) : ∃ k : Nat, high kind = k ∧ k ≤ 59 := by
 unfold high; repeat' split
 all_goals first | exact ⟨23, rfl, by decide⟩ | exact ⟨31, rfl, by decide⟩ | exact ⟨12, rfl, by decide⟩ | exact ⟨6, rfl, by decide⟩ | exact ⟨59, rfl, by decide⟩
theorem ends_p {kind : Int} {p : Txt} {lo hi : Int} {star single : Bool} (h : EndsR kind p lo hi star single) : ∃ e0 el, pieces 45 [] p = e0 :: el ∧ ∃ loN hiN : Nat, lo = loN ∧ hi = hiN ∧ EndsP kind e0 el loN hiN star single := by
 rcases h with ⟨e, h1, h2, rfl, rfl, rfl, rfl⟩ | ⟨e, h1, h2, h3, h4, rfl, rfl, rfl⟩ | ⟨e1, e2, h1, h2, h3, h4, h5, rfl, rfl⟩
 ·obtain ⟨a, ha, _⟩ := low_nat kind
  obtain ⟨b, hb, _⟩ := high_nat kind
  exact ⟨e, [], h1, a, b, ha, hb, .inl ⟨by rcases h2 with h | ⟨h, _⟩; exact .inl h; exact .inr h, rfl, rfl, rfl, ha.symm, hb.symm⟩⟩
 ·obtain ⟨a, rfl⟩ := valR_nat h4
  exact ⟨e, [], h1, a, a, rfl, rfl, .inr (.inl ⟨h2, h3, rfl, h4, rfl, rfl, rfl⟩)⟩
 ·obtain ⟨a, rfl⟩ := valR_nat h4
  obtain ⟨b, rfl⟩ := valR_nat h5
  exact ⟨e1, [e2], h1, a, b, rfl, rfl, .inr (.inr ⟨h2, h3, ⟨e2, rfl, h5⟩, h4, rfl, rfl⟩)⟩
theorem range_c (kind : Int) (hk0 : 0 ≤ kind) (hk1 : kind ≤ 5) (s : ByteArray) (hs : s.size ≤ 4294967000) (ha : foreign (toL s) = false) (t : CSet) (ht : ItemR kind (toL s) t) (v : Value) (w : World) (hv : BndAt kind w v) :
  Calls Tryz.prog 96 #[.string s, v] w fun e w' => (∃ N : Nat, e = .returned (.tuple #[.int .u64 (N : Int), .nilIface]) ∧ BitsOf N t) ∧ Below w.heap.size w w' := by
 obtain ⟨m, rfl, hnm⟩ := hv.names
 clear hv
 obtain ⟨lo, hi, star, single, step, hi', hcase, b1, b2, b3, hstar, hhas⟩ := ht
 have hpq : ∃ p ql, pieces 47 [] (toL s) = p :: ql ∧ EndsR kind p lo hi star single ∧ ((ql = [] ∧ step = 1 ∧ hi' = hi) ∨ (∃ q1, ql = [q1] ∧ Digits q1 ∧ step = (val q1 : Nat) ∧ 0 < step ∧ step < 1099511627776 ∧ hi' = if single && !star then high kind else hi)) := by
  rcases hcase with ⟨p, h1, h2, h3, h4⟩ | ⟨p, q, h1, h2, h3, h4, h5, h6, h7⟩
  ·exact ⟨p, [], h1, h2, .inl ⟨rfl, h3, h4⟩⟩
  ·exact ⟨p, [q], h1, h2, .inr ⟨q, rfl, h3, h4, h5, h6, h7⟩⟩
 clear hcase
 obtain ⟨p0, ql, hps, hE, hT⟩ := hpq
 obtain ⟨e0, el, hqs, loN, hiN, rfl, rfl, hEP⟩ := ends_p hE
 clear hE
 have hmem := fun e h => pieces_mem_len 47 (toL s) e h
 have hasc := fun e h => pieces_ascii (c := 47) (e := e) ha h
 rw [hps, toL_len] at hmem
 rw [hps] at hasc
 have hp0 := hmem p0 (List.mem_cons_self ..)
 have ha0 := hasc p0 (List.mem_cons_self ..)
 have hmem2 := fun e h => pieces_mem_len 45 p0 e h
 have hasc2 := fun e h => pieces_ascii (c := 45) (e := e) ha0 h
 rw [hqs] at hmem2 hasc2
 have hsp1 := fun w => split_c 47 s (by omega) w
 have hsp2 := fun w => split_c 45 (ofL p0) (by rw [ofL_size]; omega) w
 rw [hps] at hsp1
 rw [toL_ofL, hqs] at hsp2
 have HSP1 := Lib.hid hsp1
 have HSP2 := Lib.hid hsp2
 have HEP := Lib.hid hEP
 have HT := Lib.hid hT
 have HMEM := Lib.hid hmem
 have HMEM2 := Lib.hid hmem2
 have HASC2 := Lib.hid hasc2
 have HSTAR := Lib.hid hstar
 have HHAS := Lib.hid hhas
 have HNM := Lib.hid hnm
 obtain ⟨lowN, hlow, hlow1⟩ := low_nat kind
 obtain ⟨highN, hhigh, hhigh1⟩ := high_nat kind
 have HLOW := Lib.hid hlow
 have HHIGH := Lib.hid hhigh
 clear hsp1 hsp2 hEP hT hmem hmem2 hasc hasc2 hstar hhas hnm hps hqs hlow hhigh
 have hbox : ∀ v9 v10 ps qs w', Strs w' v9 ps → Strs w' v10 qs → Below (w.heap.size + 1) (w.alloc (.cells #[.int .u64 (low kind), .int .u64 (high kind), .map m] 121)) w' → GrS kind w m v9 v10 ps qs w' := fun v9 v10 ps qs w' h1 h2 h3 => by
  have hb1 : Below w.heap.size w (w.alloc (.cells #[.int .u64 (low kind), .int .u64 (high kind), .map m] 121)) := below_alloc (Below.refl _ _) _
  have h3' : Below (w.alloc (.cells #[.int .u64 (low kind), .int .u64 (high kind), .map m] 121)).heap.size (w.alloc (.cells #[.int .u64 (low kind), .int .u64 (high kind), .map m] 121)) w' := by simpa using h3
  exact ⟨blk_below (blk_new w _) h3', (HNM.out.below hb1).below h3', h1, h2, below_step hb1 h3'⟩
 have HBOX := Lib.hid hbox
 clear hbox
 go_enter Tryz.func96, Tryz.ntmps96
 go_upto_region 3 with (go_at_call 122; refine (HSP1.out _).mono ?_; rintro e w2 ⟨v9, rfl, hS9, hb2⟩; have hb2' : Below (w.heap.size + 1) (w.alloc (.cells #[.int .u64 (low kind), .int .u64 (high kind), .map m] 121)) w2 := (by simpa using hb2); have HB2 := Lib.hid hb2'; have HS9 := Lib.hid hS9; clear hb2 hb2' hS9)
 obtain ⟨A9, c9, rfl, hrow9⟩ := HS9.out
 obtain ⟨ad9, rfl, h90⟩ := hrow9 0 (by simp)
 rw [Addr.add_zero'] at h90
 rw [show ((p0 :: ql).map ofL)[0] = ofL p0 from rfl] at h90
 have hln9 : 0 < ((p0 :: ql).map ofL).length := by simp
 have hln9' : ((p0 :: ql).map ofL).length = ql.length + 1 := by simp
 have HLN9 := Lib.hid hln9'
 have HH9 := Lib.hid h90
 clear hrow9 hln9'
 generalize hn9 : ((p0 :: ql).map ofL).length = n9 at *
 clear hn9
 go_upto_region 4 with (go_at_call 122; refine (HSP2.out _).mono ?_; rintro e w3 ⟨v10, rfl, hS10, hb3⟩; have HS10 := Lib.hid hS10; have HS9' := Lib.hid (HS9.out.below hb3); have HB3 := Lib.hid (HB2.out.trans (hb3.mono (by have := HB2.out.size; simp at this; omega))); clear hS10 hb3)
 obtain ⟨A10, c2, rfl, hrow10⟩ := HS10.out
 obtain ⟨ad, rfl, h100⟩ := hrow10 0 (by simp)
 rw [Addr.add_zero'] at h100
 rw [show ((e0 :: el).map ofL)[0] = ofL e0 from rfl] at h100
 have hln10 : 0 < ((e0 :: el).map ofL).length := by simp
 have hln10' : ((e0 :: el).map ofL).length = el.length + 1 := by simp
 have HLN10 := Lib.hid hln10'
 have HC := Lib.hid h100
 have HR10 := Lib.hid (show ∀ x, el = [x] → w3.cell? (ad.add 1) = some (.string (ofL x)) from fun x hx => by
  subst hx
  obtain ⟨ad', e, h1⟩ := hrow10 1 (by simp)
  cases e
  exact h1)
 have HS := Lib.hid (HBOX.out _ _ _ _ _ HS9'.out HS10.out HB3.out)
 clear hrow10 hln10' HBOX HB2 HB3 HS9 HSP1 HSP2 HH9 h90 h100
 generalize hn10 : ((e0 :: el).map ofL).length = n2 at *
 clear hn10
 obtain ⟨ps, hps⟩ : ∃ ps, ps = (p0 :: ql).map ofL := ⟨_, rfl⟩
 have HPS := Lib.hid hps
 rw [← hps] at HS
 clear hps
 generalize (e0 :: el).map ofL = qs at *
 have hc0 := HC.out
 go_upto_region 7 with (fail)
 go_cut [32] (fun v32 wc => v32 = .bool star ∧ GrS kind w m (.slice (some ad9) n9 c9) (.slice (some ad) n2 c2) ps qs wc ∧ wc.cell? ad = some (.string (ofL e0)) ∧ (∀ x, el = [x] → wc.cell? (ad.add 1) = some (.string (ofL x))))
 case first =>
  rcases HEP.out with ⟨he, h2, rfl, h4, hlo, hhi⟩ | ⟨he1, he2, h3, hv0, h4, rfl, h5⟩ | ⟨he1, he2, h3, hv0, rfl, h5⟩
  ·clear h2 h4 hlo hhi
   rcases he with rfl | rfl
   ·have h42 : ((ofL [42]).toList == ([42] : List UInt8)) = true := by rw [toList_toL]; rfl
    go_wp2
    go_meet
    case rel => exact ⟨rfl, HS.out, HC.out, HR10.out⟩
   ·have h42 : ((ofL [63]).toList == ([42] : List UInt8)) = false := by rw [toList_toL]; rfl
    have h63 : ((ofL [63]).toList == ([63] : List UInt8)) = true := by rw [toList_toL]; rfl
    go_wp2
    go_meet
    case rel => exact ⟨rfl, HS.out, HC.out, HR10.out⟩
  ·have h42 : ((ofL e0).toList == ([42] : List UInt8)) = false := by rw [toList_toL, toL_ofL]; simpa using he1
   have h63 : ((ofL e0).toList == ([63] : List UInt8)) = false := by rw [toList_toL, toL_ofL]; simpa using he2
   clear he1 he2 h3 hv0 h4 h5
   go_wp2
   go_meet
   case rel => exact ⟨rfl, HS.out, HC.out, HR10.out⟩
  ·have h42 : ((ofL e0).toList == ([42] : List UInt8)) = false := by rw [toList_toL, toL_ofL]; simpa using he1
   have h63 : ((ofL e0).toList == ([63] : List UInt8)) = false := by rw [toList_toL, toL_ofL]; simpa using he2
   clear he1 he2 h3 hv0 h5
   go_wp2
   go_meet
   case rel => exact ⟨rfl, HS.out, HC.out, HR10.out⟩
 case rest =>
  obtain ⟨rfl, hS, hC, hR⟩ := hcut
  clear HS HC HR10 hc0
  have HS := Lib.hid hS
  have HC := Lib.hid hC
  have HR := Lib.hid hR
  clear hS hC hR
  have hsg : ((n2 : Int) == 1) = single := by
   have h9 := HLN10.out
   rcases HEP.out with ⟨_, h1, _, h2, _⟩ | ⟨_, _, h1, _, _, _, h2⟩ | ⟨_, _, ⟨e2, h1, _⟩, _, _, h2⟩
   ·rw [h2]; rw [h1] at h9; simp at h9 ⊢; omega
   ·rw [h2]; rw [h1] at h9; simp at h9 ⊢; omega
   ·rw [h2]; rw [h1] at h9; simp at h9 ⊢; omega
  have HSG := Lib.hid hsg
  clear hsg
  go_upto_if 32 with (fail)
  go_cut [6, 7, 11, 12, 13] (fun v6 v7 v11 v12 v13 wc => v6 = .int .u64 (loN : Int) ∧ v7 = .int .u64 (hiN : Int) ∧ v11 = .bool single ∧ v12 = .nilIface ∧ v13 = .int .u64 (extN star : Int) ∧ GrS kind w m (.slice (some ad9) n9 c9) (.slice (some ad) n2 c2) ps qs wc)
  case first =>
   rcases HEP.out with ⟨he, rfl, rfl, rfl, hlo, hhi⟩ | ⟨he1, he2, rfl, hv0, rfl, rfl, rfl⟩ | ⟨he1, he2, ⟨e2, rfl, hv2⟩, hv0, rfl, rfl⟩
   ·have c0 : wc.cell? ⟨w.heap.size, 0, none⟩ = some (.int .u64 (loN : Int)) := by rw [hlo]; exact (blk_cell HS.out.box 0).trans rfl
    have c1 : wc.cell? ⟨w.heap.size, 1, none⟩ = some (.int .u64 (hiN : Int)) := by rw [hhi]; exact (blk_cell HS.out.box 1).trans rfl
    have hu121 := Tryz.underlying121
    clear he hlo hhi
    go_wp2
    go_meet
    case rel => exact ⟨rfl, rfl, congrArg Value.bool HSG.out, rfl, rfl, HS.out⟩
   ·obtain rfl : n2 = 1 := HLN10.out
    have HV := Lib.hid (fun w' (h : NamesAt kind w' m) => intOrName_c kind (ofL e0) (by rw [ofL_size]; have := HMEM2.out e0 (List.mem_cons_self ..); omega) (HASC2.out e0 (List.mem_cons_self ..)) (loN : Int) hv0 (by have := HHIGH.out; omega) m w' h)
    clear he1 he2 hv0
    go_upto_region 11 with (fail)
    refine wp_region_det (F := ?F1) (by kernel_rfl) 114 rfl 11 [(38, .slice (some ad) 1 c2), (39, .pointer (some (ad))), (40, .string (ofL e0)), (41, .pointer (some ⟨w.heap.size, 2, none⟩)), (42, .map m), (43, .tuple #[.int .u64 (loN : Int), .nilIface]), (37, .tuple #[.int .u64 (loN : Int), .nilIface]), (44, .int .u64 (loN : Int)), (45, .nilIface), (6, .int .u64 (loN : Int)), (12, .nilIface)] ?hF1 (by kernel_rfl) (fun w' => GrS kind w m (.slice (some ad9) n9 c9) (.slice (some ad) 1 c2) ps qs w' ∧ w'.cell? (ad) = some (.string (ofL e0))) (fun w1 w' h hb => ⟨h.1.goes hb, pw_cell_below hb h.2⟩) ⟨HS.out.goes (Below.refl _ _).drew, HC.out⟩ ?_ ?_
    case hF1 =>
     simp only [List.foldl_cons, List.foldl_nil, List.setIfInBounds_toArray, List.set_cons_zero, List.set_cons_succ]
     rfl
    ·and_intros
     all_goals first | intro _ w1 hs' | exact trivial
     all_goals
      have z0 := hs'.2
      have hu121 := Tryz.underlying121
      have z2 : w1.cell? ⟨w.heap.size, 2, none⟩ = some (.map m) := (blk_cell hs'.1.box 2).trans rfl
      have hb := Below.refl w1.heap.size w1
      change Oper.wp _ _ _ _ _ _
      go_simp
     ·refine (HV.out _ hs'.1.names).mono ?_
      rintro r w4 ⟨rfl, hb4⟩
      exact ⟨rfl, hb4⟩
    ·intro w4 hs'
     show Exit.then _ _ .normal _ w4
     have HS4 := Lib.hid hs'.1
     clear hs'
     clear HS HC HV
     go_wp2
     go_meet
     case rel => exact ⟨rfl, rfl, rfl, rfl, rfl, HS4.out⟩
   ·obtain rfl : n2 = 2 := HLN10.out
    have hhb : (hiN : Int) < 1099511627776 := by
     rcases HT.out with ⟨_, _, h⟩ | ⟨_, _, _, _, _, _, h⟩
     ·have := HHIGH.out; omega
     ·have := HHIGH.out; simp at h; omega
    have HV := Lib.hid (fun w' (h : NamesAt kind w' m) => intOrName_c kind (ofL e0) (by rw [ofL_size]; have := HMEM2.out e0 (List.mem_cons_self ..); omega) (HASC2.out e0 (List.mem_cons_self ..)) (loN : Int) hv0 (by have := HHIGH.out; omega) m w' h)
    have HV2 := Lib.hid (fun w' (h : NamesAt kind w' m) => intOrName_c kind (ofL e2) (by rw [ofL_size]; have := HMEM2.out e2 (by simp); omega) (HASC2.out e2 (by simp)) (hiN : Int) hv2 hhb m w' h)
    clear he1 he2 hv0 hv2
    have HC := Lib.hid (show wc.cell? ad = some (.string (ofL e0)) ∧ wc.cell? (ad.add 1) = some (.string (ofL e2)) from ⟨HC.out, HR.out e2 rfl⟩)
    go_upto_region 11 with (fail)
    refine wp_region_det (F := ?F2) (by kernel_rfl) 114 rfl 11 [(38, .slice (some ad) 2 c2), (39, .pointer (some (ad))), (40, .string (ofL e0)), (41, .pointer (some ⟨w.heap.size, 2, none⟩)), (42, .map m), (43, .tuple #[.int .u64 (loN : Int), .nilIface]), (37, .tuple #[.int .u64 (loN : Int), .nilIface]), (44, .int .u64 (loN : Int)), (45, .nilIface), (6, .int .u64 (loN : Int)), (12, .nilIface)] ?hF2 (by kernel_rfl) (fun w' => GrS kind w m (.slice (some ad9) n9 c9) (.slice (some ad) 2 c2) ps qs w' ∧ w'.cell? (ad) = some (.string (ofL e0)) ∧ w'.cell? (ad.add 1) = some (.string (ofL e2))) (fun w1 w' h hb => ⟨h.1.goes hb, ⟨pw_cell_below hb h.2.1, pw_cell_below hb h.2.2⟩⟩) ⟨HS.out.goes (Below.refl _ _).drew, HC.out⟩ ?_ ?_
    case hF2 =>
     simp only [List.foldl_cons, List.foldl_nil, List.setIfInBounds_toArray, List.set_cons_zero, List.set_cons_succ]
     rfl
    ·and_intros
     all_goals first | intro _ w1 hs' | exact trivial
     all_goals
      have z0 := hs'.2.1
      have hu121 := Tryz.underlying121
      have z2 : w1.cell? ⟨w.heap.size, 2, none⟩ = some (.map m) := (blk_cell hs'.1.box 2).trans rfl
      have hb := Below.refl w1.heap.size w1
      change Oper.wp _ _ _ _ _ _
      go_simp
     ·refine (HV.out _ hs'.1.names).mono ?_
      rintro r w4 ⟨rfl, hb4⟩
      exact ⟨rfl, hb4⟩
    ·intro w4 hs'
     show Exit.then _ _ .normal _ w4
     have HS4 := Lib.hid hs'.1
     have HC2 := Lib.hid hs'.2.2
     clear hs'
     clear HS HC HV
     have HS := HS4
     have HV := HV2
     have HC := HC2
     clear HS4 HV2 HC2
     go_upto_region 19 with (fail)
     refine wp_region_det (F := ?F3) (by kernel_rfl) 114 rfl 11 [(58, .slice (some ad) 2 c2), (59, .pointer (some (ad.add 1))), (60, .string (ofL e2)), (61, .pointer (some ⟨w.heap.size, 2, none⟩)), (62, .map m), (63, .tuple #[.int .u64 (hiN : Int), .nilIface]), (57, .tuple #[.int .u64 (hiN : Int), .nilIface]), (64, .int .u64 (hiN : Int)), (65, .nilIface), (7, .int .u64 (hiN : Int)), (12, .nilIface)] ?hF3 (by kernel_rfl) (fun w' => GrS kind w m (.slice (some ad9) n9 c9) (.slice (some ad) 2 c2) ps qs w' ∧ w'.cell? (ad.add 1) = some (.string (ofL e2))) (fun w1 w' h hb => ⟨h.1.goes hb, pw_cell_below hb h.2⟩) ⟨HS.out.goes (Below.refl _ _).drew, HC.out⟩ ?_ ?_
     case hF3 =>
      simp only [List.foldl_cons, List.foldl_nil, List.setIfInBounds_toArray, List.set_cons_zero, List.set_cons_succ]
      rfl
     ·and_intros
      all_goals first | intro _ w1 hs' | exact trivial
      all_goals
       have z0 : w1.cell? ⟨ad.block, ad.off + 1, none⟩ = some (.string (ofL e2)) := hs'.2
       have hu121 := Tryz.underlying121
       have z2 : w1.cell? ⟨w.heap.size, 2, none⟩ = some (.map m) := (blk_cell hs'.1.box 2).trans rfl
       have hb := Below.refl w1.heap.size w1
       change Oper.wp _ _ _ _ _ _
       go_simp
      ·refine (HV.out _ hs'.1.names).mono ?_
       rintro r w4 ⟨rfl, hb4⟩
       exact ⟨rfl, hb4⟩
     ·intro w4 hs'
      show Exit.then _ _ .normal _ w4
      have HS4 := Lib.hid hs'.1
      clear hs'
      clear HS HC HV
      go_wp2
      go_meet
      case rel => exact ⟨rfl, rfl, rfl, rfl, rfl, HS4.out⟩
  case rest =>
   obtain ⟨rfl, rfl, rfl, rfl, rfl, hS⟩ := hcut
   clear HS HC HR
   have HS := Lib.hid hS
   have hend : ∃ (E stepN : Nat), hi' = E ∧ step = stepN ∧ 0 < stepN ∧ stepN < 1099511627776 ∧ ((ql = [] ∧ stepN = 1 ∧ E = hiN) ∨ (∃ q1, ql = [q1] ∧ Digits q1 ∧ stepN = val q1 ∧ E = if single then highN else hiN)) := by
    rcases HT.out with ⟨h1, h2, h3⟩ | ⟨q1, h1, h2, h3, h4, h5, h6⟩
    ·exact ⟨hiN, 1, h3, h2, by decide, by decide, .inl ⟨h1, rfl, rfl⟩⟩
    ·have hh := HHIGH.out
     refine ⟨if single then highN else hiN, val q1, ?_, h3, by omega, by omega, .inr ⟨q1, h1, h2, rfl, rfl⟩⟩
     rw [h6]
     rcases HEP.out with ⟨_, _, h7, h8, _, h9⟩ | ⟨_, _, _, _, _, h7, h8⟩ | ⟨_, _, _, _, h7, h8⟩
     ·rw [h7, h8]; simp; omega
     ·rw [h7, h8]; simp; omega
     ·rw [h7, h8]; simp
   obtain ⟨E, stepN, rfl, rfl, hst0, hst1, hql⟩ := hend
   have HQL := Lib.hid hql
   clear hS hql HEP HT
   go_upto_block 1 with (fail)
   go_cut [7, 8, 12, 13] (fun v7 v8 v12 v13 wc => v7 = .int .u64 (E : Int) ∧ v8 = .int .u64 (stepN : Int) ∧ v12 = .nilIface ∧ v13 = .int .u64 (ext2N star stepN : Int) ∧ GrS kind w m (.slice (some ad9) n9 c9) (.slice (some ad) n2 c2) ps qs wc)
   case first =>
    rcases HQL.out with ⟨rfl, rfl, rfl⟩ | ⟨q1, rfl, hdg, hsv, hE⟩
    ·obtain rfl : n9 = 1 := HLN9.out
     have HX := Lib.hid (ext_one star)
     go_wp2
     go_meet
     case rel => exact ⟨rfl, rfl, rfl, congrArg (Value.int .u64) HX.out.symm, HS.out⟩
    ·obtain rfl : n9 = 2 := HLN9.out
     have hc1 : wc.cell? ⟨ad9.block, ad9.off + 1, none⟩ = some (.string (ofL q1)) := by
      have h9 := HS.out.r9
      rw [HPS.out] at h9
      obtain ⟨A', c', e', hr'⟩ := h9
      injection e' with e1 e2 e3
      obtain ⟨ad', e4, h1⟩ := hr' 1 (by simp)
      rw [← e1] at e4
      cases e4
      exact h1
     have HI := Lib.hid (fun w => mustInt_c (ofL q1) (by rw [ofL_size]; have := HMEM.out q1 (by simp); omega) hdg (by rw [toL_ofL]; omega) w)
     rw [toL_ofL, ← hsv] at HI
     have hend : ∀ wd, GrS kind w m (.slice (some ad9) 2 c9) (.slice (some ad) n2 c2) ps qs wd → wd.cell? ⟨w.heap.size, 1, none⟩ = some (.int .u64 (highN : Int)) := fun wd h => by
      rw [← HHIGH.out]; exact (blk_cell h.box 1).trans rfl
     have HEND := Lib.hid hend
     have HE := Lib.hid hE
     have hu121 := Tryz.underlying121
     clear hdg hsv hend hE
     by_cases h1 : stepN ≤ 1
     ·have hs1 : stepN = 1 := by omega
      have hd : decide ((1 : Int) < (stepN : Int)) = false := by simp; omega
      have HX := Lib.hid (show (ext2N star stepN : Int) = (extN star : Int) by rw [hs1]; exact ext_one star)
      clear hs1
      cases single with
      | true =>
       go_wp2_with (go_at_call 124; refine (HI.out _).mono ?_; rintro e w5 ⟨rfl, hb5⟩; have HS5 := Lib.hid (HS.out.goes hb5); have hce := HEND.out _ HS5.out; clear hb5)
       go_meet
       case rel => exact ⟨congrArg (fun x : Nat => Value.int .u64 (x : Int)) HE.out.symm, rfl, rfl, congrArg (Value.int .u64) HX.out.symm, HS5.out⟩
      | false =>
       go_wp2_with (go_at_call 124; refine (HI.out _).mono ?_; rintro e w5 ⟨rfl, hb5⟩; have HS5 := Lib.hid (HS.out.goes hb5); have hce := HEND.out _ HS5.out; clear hb5)
       go_meet
       case rel => exact ⟨congrArg (fun x : Nat => Value.int .u64 (x : Int)) HE.out.symm, rfl, rfl, congrArg (Value.int .u64) HX.out.symm, HS5.out⟩
     ·have hd : decide ((1 : Int) < (stepN : Int)) = true := by simp; omega
      have HX := Lib.hid (show (ext2N star stepN : Int) = 0 by unfold ext2N; rw [show decide (stepN = 1) = false by simp; omega]; simp)
      cases single with
      | true =>
       go_wp2_with (go_at_call 124; refine (HI.out _).mono ?_; rintro e w5 ⟨rfl, hb5⟩; have HS5 := Lib.hid (HS.out.goes hb5); have hce := HEND.out _ HS5.out; clear hb5)
       go_meet
       case rel => exact ⟨congrArg (fun x : Nat => Value.int .u64 (x : Int)) HE.out.symm, rfl, rfl, congrArg (Value.int .u64) HX.out.symm, HS5.out⟩
      | false =>
       go_wp2_with (go_at_call 124; refine (HI.out _).mono ?_; rintro e w5 ⟨rfl, hb5⟩; have HS5 := Lib.hid (HS.out.goes hb5); have hce := HEND.out _ HS5.out; clear hb5)
       go_meet
       case rel => exact ⟨congrArg (fun x : Nat => Value.int .u64 (x : Int)) HE.out.symm, rfl, rfl, congrArg (Value.int .u64) HX.out.symm, HS5.out⟩
   case rest =>
    obtain ⟨rfl, rfl, rfl, rfl, hS⟩ := hcut
    clear HS
    have HS := Lib.hid hS
    have hu121 := Tryz.underlying121
    have c0 : wc.cell? ⟨w.heap.size, 0, none⟩ = some (.int .u64 (lowN : Int)) := by rw [← HLOW.out]; exact (blk_cell hS.box 0).trans rfl
    have c1 : wc.cell? ⟨w.heap.size, 1, none⟩ = some (.int .u64 (highN : Int)) := by rw [← HHIGH.out]; exact (blk_cell hS.box 1).trans rfl
    have g1 : lowN ≤ loN := by have := HLOW.out; omega
    have g2 : E ≤ highN := by have := HHIGH.out; omega
    have g3 : loN ≤ E := by omega
    have hne : ((stepN : Int) == 0) = false := by simp; omega
    have HG := Lib.hid (fun w => getBits_c loN E stepN g3 (by omega) hst0 (by omega) w)
    clear hS b1 b2 b3 HQL HLN9 HLN10
    have HRB := Lib.hid (fun N (h : rangeN loN E stepN N) => range_bits (t := t) star h (by rw [HSTAR.out]) (fun i hi => HHAS.out i hi) (by omega) (ext2N star stepN) rfl)
    clear HSTAR HHAS
    generalize ext2N star stepN = ext at *
    go_wp2_with (go_at_call 117; refine (HG.out _).mono ?_; rintro e w5 ⟨N, rfl, hN, rfl⟩; have HM := HRB.out N hN; clear hN)
    go_ret2
    obtain ⟨M, hM, hB⟩ := HM
    exact ⟨⟨M, by rw [← hM]; rfl, hB⟩, HS.out.below⟩
def isComma (r : Nat) : Bool := r == 44
theorem spans_eq (s : ByteArray) (ha : foreign (toL s) = false) : ∀ (d f pos a : Nat) (acc : List (Nat × Nat)), pos + d = s.size → d ≤ f → a ≤ pos → (∀ e ∈ pieces 44 (((toL s).take pos).drop a) ((toL s).drop pos), e ≠ []) →
  ((Lib.closeSpans s (Lib.spansFromP isComma s f pos (if a < pos then some a else none) acc)).map fun x => s.extract x.1 x.2) = (acc.map fun x => s.extract x.1 x.2) ++ (pieces 44 (((toL s).take pos).drop a) ((toL s).drop pos)).map ofL := by
 intro d
 induction d with
 | zero =>
  intro f pos a acc hp hf hap hne
  have hps : pos = s.size := by omega
  subst hps
  have hd0 : (toL s).drop s.size = [] := List.drop_eq_nil_of_le (by rw [toL_len]; exact Nat.le_refl _)
  rw [hd0] at hne ⊢
  rw [Lib.spansFromP_end _ _ _ _ _ _ (by omega)]
  have h1 := hne (((toL s).take s.size).drop a) (by simp [pieces])
  have hlt : a < s.size := by
   rcases Nat.lt_or_ge a s.size with h | h
   ·exact h
   ·exfalso; apply h1; rw [List.drop_eq_nil_of_le (by rw [List.length_take, toL_len]; omega)]
  rw [if_pos hlt]
  unfold Lib.closeSpans
  simp only [pieces, List.map_append, List.map_cons, List.map_nil]
  rw [extract_ofL]
 | succ d ih =>
  intro f pos a acc hp hf hap hne
  have hlt : pos < s.size := by omega
  obtain ⟨f, rfl⟩ : ∃ g, f = g + 1 := ⟨f - 1, by omega⟩
  have hdr := byte_at s pos hlt
  have hc := foreign_at ha pos hlt
  have hdec := decode_ascii s pos hlt hc
  have hsn : a ≤ pos → ((toL s).take (pos + 1)).drop a = ((toL s).take pos).drop a ++ [s[pos]] := fun h => by
   rw [take_at s pos hlt, List.drop_append_of_le_length (by rw [List.length_take, toL_len]; omega)]
  have hnil : ((toL s).take (pos + 1)).drop (pos + 1) = [] := List.drop_eq_nil_of_le (by rw [List.length_take]; omega)
  rw [hdr] at hne ⊢
  have hun : ∀ st, Lib.spansFromP isComma s (f + 1) pos st acc = (if isComma s[pos].toNat then (match st with | some a => Lib.spansFromP isComma s f (pos + 1) none (acc ++ [(a, pos)]) | none => Lib.spansFromP isComma s f (pos + 1) none acc) else (match st with | some a => Lib.spansFromP isComma s f (pos + 1) (some a) acc | none => Lib.spansFromP isComma s f (pos + 1) (some pos) acc)) := fun st => by
   simp only [Lib.spansFromP, hlt, if_true, hdec]
   cases st <;> rfl
  rw [hun]
  by_cases h44 : s[pos] = 44
  ·have hcm : isComma (s[pos].toNat) = true := by rw [h44]; rfl
   rw [pieces, if_pos h44] at hne ⊢
   have h1 := hne _ (List.mem_cons_self ..)
   have hap' : a < pos := by
    rcases Nat.lt_or_ge a pos with h | h
    ·exact h
    ·exfalso; apply h1; rw [List.drop_eq_nil_of_le (by rw [List.length_take, toL_len]; omega)]
   have := ih f (pos + 1) (pos + 1) (acc ++ [(a, pos)]) (by omega) (by omega) (Nat.le_refl _) (fun e he => hne e (List.mem_cons_of_mem _ (by rw [hnil] at he; exact he)))
   rw [if_neg (Nat.lt_irrefl _), hnil] at this
   simp only [hcm, if_true, hap']
   rw [this]
   simp only [List.map_append, List.map_cons, List.map_nil, List.append_assoc, List.singleton_append]
   rw [extract_ofL]
  ·have hcm : isComma (s[pos].toNat) = false := by
    unfold isComma
    have : s[pos].toNat ≠ 44 := fun h => h44 (UInt8.toNat_inj.1 h)
    simpa using this
   rw [pieces, if_neg h44] at hne ⊢
   have := ih f (pos + 1) a acc (by omega) (by omega) (by omega) (by rw [hsn hap]; exact hne)
   rw [if_pos (by omega), hsn hap] at this
   rw [← this]
   by_cases hap' : a < pos
   ·simp only [hcm, hap', if_true]; simp
   ·have : a = pos := by omega
    subst this
    simp only [hcm]; simp
theorem fields_eq (s : ByteArray) (ha : foreign (toL s) = false) (hne : ∀ e ∈ pieces 44 [] (toL s), e ≠ []) : Lib.goFieldsP isComma s = (pieces 44 [] (toL s)).map ofL := by
 have := spans_eq s ha s.size s.size 0 0 [] (by omega) (Nat.le_refl _) (Nat.le_refl _) (by simpa using hne)
 rw [if_neg (by omega)] at this
 simpa [Lib.goFieldsP, Lib.spansOfP] using this
theorem comma_c (x : Nat) (W : World) : Calls Tryz.prog 95 #[.int .i32 (x : Int)] W fun e w' => e = .returned (.bool (isComma x)) ∧ ∃ q, w' = W.drewN q := by
 have h : ((x : Int) == 44) = isComma x := by unfold isComma; rw [Bool.eq_iff_iff]; simp; omega
 have H := Lib.hid h
 clear h
 go_enter Tryz.func95, Tryz.ntmps95
 go_wp2
 go_ret
 exact ⟨congrArg (fun b => Ending.returned (.bool b)) H.out, 0, rfl⟩
theorem comma_at (w : World) : PredAt Tryz.prog 95 #[] encR isComma w := fun W x _ => comma_c x W
theorem bits_zero : BitsOf 0 CSet.zero := ⟨by decide, fun i _ => by rw [Nat.zero_testBit]; rfl, by rw [Nat.zero_testBit]; rfl⟩
theorem bits_union {N M : Nat} {a b : CSet} (h : BitsOf N a) (k : BitsOf M b) : ∃ K : Nat, bits .or .u64 (N : Int) (M : Int) = (K : Int) ∧ BitsOf K (a.union b) := by
 rw [(bits_nat .u64 64 (by decide) wraps_u64 N M h.1 k.1).2]
 refine ⟨_, rfl, Nat.or_lt_two_pow (n := 64) h.1 k.1, fun i hi => ?_, ?_⟩
 ·rw [Nat.testBit_or, h.2.1 i hi, k.2.1 i hi]; rfl
 ·rw [Nat.testBit_or, h.2.2, k.2.2]; rfl
theorem fieldP_ne {kind : Int} : ∀ (ps : List Txt) (acc t : CSet), FieldP kind ps acc t → ∀ e ∈ ps, e ≠ [] := by
 intro ps
 induction ps with
 | nil => intro acc t _ e he; cases he
 | cons p ps ih =>
  intro acc t h e he
  obtain ⟨h1, one, h2, h3⟩ := h
  rcases List.mem_cons.1 he with rfl | he
  ·exact h1
  ·exact ih _ _ h3 e he
structure GfS (kind : Int) (w : World) (m : Option Nat) (v : Value) (ps : List ByteArray) (w' : World) : Prop where
 box : w'.heap[w.heap.size]? = some (.cells #[Value.int .u64 (low kind), .int .u64 (high kind), .map m] 121 (0, 0))
 names : NamesAt kind w' m
 row : Strs w' v ps
 below : Below w.heap.size w w'
theorem GfS.goes {kind : Int} {w : World} {m : Option Nat} {v : Value} {ps : List ByteArray} {w' w'' : World} (h : GfS kind w m v ps w') (hb : Below w'.heap.size w' w'') : GfS kind w m v ps w'' :=
 ⟨blk_below h.box hb, h.names.below hb, h.row.below hb, below_step h.below hb⟩
theorem NamesAt.bnd {kind : Int} {w : World} {m : Option Nat} (h : NamesAt kind w m) : BndAt kind w (.agg #[.int .u64 (low kind), .int .u64 (high kind), .map m]) := by
 refine ⟨m, rfl, ?_⟩
 rcases h with ⟨b, h1, h2, h3 | h3⟩ | ⟨h1, h2, h3⟩
 ·subst h3; exact .inl ⟨rfl, b, h1, h2⟩
 ·subst h3; exact .inr (.inl ⟨rfl, b, h1, h2⟩)
 ·exact .inr (.inr ⟨h2, h3, h1⟩)
def GfL (kind : Int) (w : World) (m : Option Nat) (v : Value) (ps : List Txt) (t : CSet) (v6 v16 : Value) (wr : World) : Prop :=
 ∃ (i N : Nat) (acc : CSet), v6 = .int .u64 (N : Int) ∧ v16 = .int .i64 (i : Int) ∧ i ≤ ps.length ∧ BitsOf N acc ∧ FieldP kind (ps.drop i) acc t ∧ GfS kind w m v (ps.map ofL) wr
theorem getField_c (kind : Int) (hk0 : 0 ≤ kind) (hk1 : kind ≤ 5) (s : ByteArray) (hs : s.size ≤ 4294960000) (ha : foreign (toL s) = false) (t : CSet) (ht : FieldR kind (toL s) t) (v : Value) (w : World) (hv : BndAt kind w v) :
  Calls Tryz.prog 58 #[.string s, v] w fun e w' => (∃ N : Nat, e = .returned (.tuple #[.int .u64 (N : Int), .nilIface]) ∧ BitsOf N t) ∧ Below w.heap.size w w' := by
 obtain ⟨m, rfl, hnm⟩ := hv.names
 clear hv
 unfold FieldR at ht
 have hmem := fun e h => pieces_mem_len 44 (toL s) e h
 have hasc := fun e h => pieces_ascii (c := 44) (e := e) ha h
 have hfe := fields_eq s ha (fieldP_ne _ _ _ ht)
 have hff := fun w => Tryz.strings_FieldsFunc 95 #[] (enters_of Tryz.func95 (by kernel_rfl) rfl) isComma s w (by omega) (comma_at w)
 rw [hfe] at hff
 rw [toL_len] at hmem
 have hplen := pieces_len 44 (toL s) []
 rw [toL_len] at hplen
 generalize pieces 44 [] (toL s) = ps at *
 have HFF := Lib.hid hff
 have HMEM := Lib.hid hmem
 have HASC := Lib.hid hasc
 have HT := Lib.hid ht
 have hstart : ∀ (wc w' : World) (v : Value), wc = w.alloc (.cells #[Value.int .u64 (low kind), .int .u64 (high kind), .map m] 121) → wc.heap.size ≤ wc.heap.size → w'.ownsRow wc.heap.size 9 1 v (ps.map ofL).length (List.map Value.string (ps.map ofL)) → Below wc.heap.size wc w' → GfL kind w m v ps t (.int .u64 0) (.int .i64 0) w' := fun wc w' v hwc _ hown hb => by
  subst hwc
  have hb1 : Below w.heap.size w (w.alloc (.cells #[Value.int .u64 (low kind), .int .u64 (high kind), .map m] 121)) := below_alloc (Below.refl _ _) _
  exact ⟨0, 0, CSet.zero, rfl, rfl, Nat.zero_le _, bits_zero, HT.out, blk_below (blk_new w _) hb, (hnm.below hb1).below hb, RowB.strs ⟨by simpa using hown, hb⟩, below_step hb1 hb⟩
 have HST := Lib.hid hstart
 clear hff hmem hasc ht hfe hstart hnm
 go_enter Tryz.func58, Tryz.ntmps58
 go_wp2_with (go_at_call 94; refine (HFF.out _).mono ?_; rintro e w2 ⟨A, rfl, hA1, hA2, hA3⟩; have hL := Lib.hid (HST.out _ _ _ rfl (Nat.le_refl _) hA2 hA3); clear hA1 hA2 hA3)
 have hpl : (ps.map ofL).length = ps.length := by simp
 generalize hnp : (ps.map ofL).length = np at *
 clear hnp
 subst hpl
 clear HST
 go_loopw [6, 16] (fun v6 v16 wr => GfL kind w m (.slice (some ⟨A, 0, none⟩) ps.length ps.length) ps t v6 v16 wr) (fun _ iv _ => ((ps.length : Int) - intOf iv).toNat)
 case atStart => exact hL.out
 case round =>
  obtain ⟨i, N, acc, rfl, rfl, hi, hN, hP, hS⟩ := hrel
  clear hL
  by_cases hlt : i < ps.length
  ·obtain ⟨A', c', e', hr⟩ := hS.row
   injection e' with e1 e2 e3
   subst e1 e3
   obtain ⟨ad, e4, hc⟩ := hr i (by simpa using hlt)
   injection e4 with e4
   subst e4
   replace hc : wr.cell? (Addr.add ⟨A, 0, none⟩ i) = some (.string (ofL ps[i])) := by rw [hc]; simp
   rw [add_plain] at hc
   have hmem : ps[i] ∈ ps := List.getElem_mem _
   have hsz := HMEM.out _ hmem
   have hac := HASC.out _ hmem
   have hdrop : ps.drop i = ps[i] :: ps.drop (i + 1) := List.drop_eq_getElem_cons hlt
   rw [hdrop] at hP
   obtain ⟨hne, one, hone, hP2⟩ := hP
   generalize ps[i] = p at *
   have hsz' : (ofL p).size ≤ 4294967000 := by rw [ofL_size]; omega
   have HRG := Lib.hid (fun w' (h : NamesAt kind w' m) => range_c kind hk0 hk1 (ofL p) hsz' hac one hone _ w' h.bnd)
   have HS := Lib.hid hS
   have HN := Lib.hid hN
   have HP2 := Lib.hid hP2
   have c0 := (blk_cell hS.box 0).trans (show _ = some (Value.int .u64 (low kind)) from rfl)
   have c1 := (blk_cell hS.box 1).trans (show _ = some (Value.int .u64 (high kind)) from rfl)
   have c2 := (blk_cell hS.box 2).trans (show _ = some (Value.map m) from rfl)
   have hu121 := Tryz.underlying121
   have hi0 : (0 : Int) ≤ (i : Int) := by omega
   have hi1 : (i : Int) < (ps.length : Int) := by omega
   clear hr e2 hmem hsz hac hdrop hne hone hP2 hS hN
   go_wp2_with (go_at_call 96; refine (HRG.out _ HS.out.names).mono ?_; rintro e w5 ⟨⟨M, rfl, hM⟩, hb5⟩; have HS5 := Lib.hid (HS.out.goes hb5); have HU := Lib.hid (bits_union HN.out hM); clear hb5 hM)
   obtain ⟨K, hK, hKB⟩ := HU.out
   exact ⟨⟨i + 1, K, acc.union one, congrArg (Value.int .u64) hK, by simp, by omega, hKB, HP2.out, HS5.out⟩, by simp [intOf]; omega⟩
  ·have hin : i = ps.length := by omega
   subst hin
   rw [List.drop_length] at hP
   have hta : t = acc := hP
   subst hta
   have HN := Lib.hid hN
   have HB := Lib.hid hS.below
   clear hP hN hS
   go_wp2
   go_ret2
   exact ⟨⟨N, rfl, HN.out⟩, HB.out⟩
end Go.Proofs.YtcjdideliifkhaaGreatDoor
