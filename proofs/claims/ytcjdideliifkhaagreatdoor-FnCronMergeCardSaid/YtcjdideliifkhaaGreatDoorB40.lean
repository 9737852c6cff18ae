import Derived.Shelf.Abstract
import Derived.Test.YtcjdideliifkhaaGreatDoorB39
set_option maxRecDepth 100000
set_option maxHeartbeats 16000000
namespace Go.Proofs.YtcjdideliifkhaaGreatDoor
open Go.Shelf Go.RowKit Go.Proofs.YtcjdideliifkhaaGreatDoorW.PrintWords Go.Proofs.YtcjdideliifkhaaGreatDoorW.PrintLast Go.Proofs.YtcjdideliifkhaaGreatDoorW.PrintMore PFnCronTextAfterAnywhere
set_option linter.unusedVariables false
set_option linter.unusedSimpArgs false
theorem SrtS.swap {w0 : World} {B : Nat} {E : Nat → Int × Tm} {l : List Nat} {w : World} (h : SrtS w0 B E l w) (i j : Nat) (hi : i < l.length) (hj : j < l.length) (q : Nat) :
  SrtS w0 B E ((l.set i l[j]).set j l[i]) (((w.setCell ⟨B, i, none⟩ (ptr l[j])).setCell ⟨B, j, none⟩ (ptr l[i])).drewN q) := by
 obtain ⟨cur, h1, h2⟩ := h.row
 refine ⟨pw_below_drewN ((h.below.setCell (p := ⟨B, i, none⟩) h.le _).setCell (p := ⟨B, j, none⟩) h.le _) q, h.le, ⟨_, blk_set (blk_set h1 i (ptr l[j])) j (ptr l[i]), fun k hk => ?_⟩, fun p hp => ?_⟩
 ·have hk' : k < l.length := by simpa using hk
  have gk := h2 k hk'
  have gi := h2 i hi
  have gj := h2 j hj
  have hs : k < cur.size := (Array.getElem?_eq_some_iff.1 gk).1
  have hsi : i < cur.size := (Array.getElem?_eq_some_iff.1 gi).1
  have hsj : j < cur.size := (Array.getElem?_eq_some_iff.1 gj).1
  rw [Array.getElem?_setIfInBounds, Array.getElem?_setIfInBounds, List.getElem_set, List.getElem_set]
  by_cases e1 : j = k
  ·rw [if_pos e1, if_pos (by subst e1; simpa using hsj), if_pos e1]
  ·rw [if_neg e1, if_neg e1]
   by_cases e2 : i = k
   ·rw [if_pos e2, if_pos (by subst e2; exact hsi), if_pos e2]
   ·rw [if_neg e2, if_neg e2]; exact gk
 ·have hm : p ∈ l := by
   rcases List.mem_or_eq_of_mem_set hp with hp | rfl
   ·rcases List.mem_or_eq_of_mem_set hp with hp | rfl
    ·exact hp
    ·exact List.getElem_mem _
   ·exact List.getElem_mem _
  obtain ⟨g1, g2, g3⟩ := h.ent p hm
  have hc : ∀ o, (((w.setCell ⟨B, i, none⟩ (ptr l[j])).setCell ⟨B, j, none⟩ (ptr l[i])).drewN q).cell? ⟨p, o, none⟩ = w.cell? ⟨p, o, none⟩ := fun o => by
   rw [World.cell?_drewN, World.cell?_setCell_far _ ⟨B, j, none⟩ ⟨p, o, none⟩ _ (Ne.symm g1), World.cell?_setCell_far _ ⟨B, i, none⟩ ⟨p, o, none⟩ _ (Ne.symm g1)]
  exact ⟨g1, g2, ⟨(hc 0).trans g3.id, (hc 2).trans g3.ns, (hc 3).trans g3.sec, (hc 4).trans g3.loc⟩⟩
theorem swap_c (w0 : World) (B n c : Nat) (E : Nat → Int × Tm) (l : List Nat) (hl : l.length = n) (hn : n ≤ 1000) (i j : Nat) (hi : i < n) (hj : j < n) (w : World) (h : SrtS w0 B E l w) :
  Calls Tryz.prog 239 #[.slice (some ⟨B, 0, none⟩) n c, .int .i64 (i : Int), .int .i64 (j : Int)] w fun e w' => e = .returned (.tuple #[]) ∧ SrtS w0 B E ((l.set i (l[j]'(by omega))).set j (l[i]'(by omega))) w' := by
 obtain ⟨cur, h1, h2⟩ := h.row
 refine (swap_w B n c w l[i] l[j] i j hi hj hn (h.cell i (by omega)) (h.cell j (by omega)) (blk_frozen h1 i) (blk_frozen h1 j)).mono ?_
 rintro e w' ⟨rfl, q, rfl⟩
 exact ⟨rfl, h.swap i j (by omega) (by omega) q⟩
theorem len_c (B n c : Nat) (w : World) :
  Calls Tryz.prog 237 #[.slice (some ⟨B, 0, none⟩) n c] w fun e w' => e = .returned (.int .i64 (n : Int)) ∧ w' = w := by
 go_enter Tryz.func237, Tryz.ntmps237
 go_wp2
 go_ret
 exact ⟨rfl, rfl⟩
theorem reach_len (v : Value) : ∀ w, (method 435 159 v "Len").run Tryz.prog w = .ok (237, v) w := fun _ => by kernel_rfl
theorem reach_less (v : Value) : ∀ w, (method 435 159 v "Less").run Tryz.prog w = .ok (238, v) w := fun _ => by kernel_rfl
theorem reach_swap (v : Value) : ∀ w, (method 435 159 v "Swap").run Tryz.prog w = .ok (239, v) w := fun _ => by kernel_rfl
def InsTo (E : Nat → Int × Tm) (l : List Nat) (i : Nat) (j : Option Nat) : Prop := ∀ a b (hab : a < b) (hb : b < i) (hl : b < l.length), some b ≠ j → lessT (E l[b]).2 (E (l[a]'(by omega))).2 = false
theorem InsTo.more {E : Nat → Int × Tm} {l : List Nat} {i : Nat} (h : InsTo E l i none) : InsTo E l (i + 1) (some i) := fun a b hab hb hl hne =>
 h a b hab (by have : b ≠ i := fun e => hne (by rw [e]); omega) hl (by simp)
theorem InsTo.stop {E : Nat → Int × Tm} {l : List Nat} {i j : Nat} (h : InsTo E l i (some j)) (hj : j < l.length) (h0 : j = 0 ∨ ∃ h : 0 < j, lessT (E l[j]).2 (E (l[j - 1]'(by omega))).2 = false) : InsTo E l i none := fun a b hab hb hl _ => by
 by_cases e : b = j
 ·subst e
  rcases h0 with rfl | ⟨h1, h2⟩
  ·omega
  ·by_cases e2 : a = b - 1
   ·subst e2; exact h2
   ·exact lessT_ntrans h2 (h a (b - 1) (by omega) (by omega) (by omega) (by simp; omega))
 ·exact h a b hab hb hl (by simpa using e)
theorem InsTo.swap {E : Nat → Int × Tm} {l : List Nat} {i j : Nat} (h : InsTo E l i (some (j + 1))) (hj : j + 1 < i) (hi : i ≤ l.length) (h2 : lessT (E (l[j + 1]'(by omega))).2 (E (l[j]'(by omega))).2 = true) :
  InsTo E ((l.set (j + 1) (l[j]'(by omega))).set j (l[j + 1]'(by omega))) i (some j) := fun a b hab hb hl hne => by
 have hbj : b ≠ j := fun e => hne (by rw [e])
 have hl' : b < l.length := by simpa using hl
 simp only [List.getElem_set]
 rw [if_neg (Ne.symm hbj)]
 by_cases e1 : j + 1 = b
 ·rw [if_pos e1]
  by_cases e2 : j = a
  ·rw [if_pos e2]; exact lessT_asymm h2
  ·rw [if_neg e2, if_neg (by omega)]
   exact h a j (by omega) (by omega) (by omega) (by simp)
 ·rw [if_neg e1]
  by_cases e2 : j = a
  ·rw [if_pos e2]; exact h (j + 1) b (by omega) hb hl' (by simpa using Ne.symm e1)
  ·rw [if_neg e2]
   by_cases e3 : j + 1 = a
   ·rw [if_pos e3]; exact h j b (by omega) hb hl' (by simpa using Ne.symm e1)
   ·rw [if_neg e3]; exact h a b hab hb hl' (by simpa using Ne.symm e1)
theorem swap_perm {l : List Nat} {i j : Nat} (hi : i < l.length) (hj : j < l.length) : ((l.set i l[j]).set j l[i]).Perm l := by
 by_cases e : i = j
 ·subst e; simp
 ·exact List.set_set_perm hi hj
theorem insert_c (w0 : World) (B n c : Nat) (E : Nat → Int × Tm) (l0 : List Nat) (hl0 : l0.length = n) (hn : n ≤ 1000) (W : World) (h : SrtS w0 B E l0 W) :
  Calls Tryz.prog 133 #[.iface 159 (.slice (some ⟨B, 0, none⟩) n c), .int .i64 0, .int .i64 (n : Int)] W fun e w' => e = .returned (.tuple #[]) ∧ ∃ l, l.Perm l0 ∧ InsTo E l n none ∧ SrtS w0 B E l w' := by
 have mL := reach_less (.slice (some ⟨B, 0, none⟩) n c)
 have mS := reach_swap (.slice (some ⟨B, 0, none⟩) n c)
 have eL : Enters Tryz.prog 238 := enters_of Tryz.func238 (by kernel_rfl) rfl
 have eS : Enters Tryz.prog 239 := enters_of Tryz.func239 (by kernel_rfl) rfl
 go_enter Tryz.func133, Tryz.ntmps133
 go_wp2
 go_loopw [6] (fun v6 wr => ∃ (i : Nat) (l : List Nat), v6 = .int .i64 (i : Int) ∧ 1 ≤ i ∧ i ≤ n + 1 ∧ l.Perm l0 ∧ InsTo E l i none ∧ SrtS w0 B E l wr) (fun v6 _ => n + 1 - (intOf v6).toNat)
 case atStart => exact ⟨1, l0, rfl, by omega, by omega, List.Perm.refl _, fun a b hab hb => by omega, h⟩
 case round =>
  obtain ⟨i, l, rfl, h1, hi, hp, hs, hS⟩ := hrel
  clear h
  by_cases hin : i < n
  ·go_wp2
   go_loopw [7] (fun v7 wr => ∃ (j : Nat) (l : List Nat), v7 = .int .i64 (j : Int) ∧ j ≤ i ∧ l.Perm l0 ∧ InsTo E l (i + 1) (some j) ∧ SrtS w0 B E l wr) (fun v7 _ => (intOf v7).toNat)
   case atStart => exact ⟨i, l, rfl, Nat.le_refl _, hp, hs.more, hS⟩
   case round =>
    clear hp hs hS
    obtain ⟨j, l, rfl, hj, hp, hs, hS⟩ := hrel
    have hlen : l.length = n := by rw [hp.length_eq, hl0]
    cases j with
    | zero =>
     go_wp2
     exact ⟨⟨i + 1, l, rfl, by omega, by omega, hp, hs.stop (by omega) (.inl rfl), hS⟩, by simp [intOf]; omega⟩
    | succ j =>
     have HL : Calls Tryz.prog 238 #[.slice (some ⟨B, 0, none⟩) n c, .int .i64 ((j : Int) + 1), .int .i64 (j : Int)] wr fun e w' => e = .returned (.bool (lessT (E (l[j + 1]'(by omega))).2 (E (l[j]'(by omega))).2)) ∧ Below wr.heap.size wr w' := less_c w0 B n c E l hlen hn (j + 1) j (by omega) (by omega) _ hS
     obtain ⟨b, hb⟩ : ∃ b, lessT (E (l[j + 1]'(by omega))).2 (E (l[j]'(by omega))).2 = b := ⟨_, rfl⟩
     rw [hb] at HL
     have HL' := Lib.hid HL
     have HS := Lib.hid (fun w' (hbl : Below wr.heap.size wr w') => swap_c w0 B n c E l hlen hn (j + 1) j (by omega) (by omega) w' (hS.goes hbl))
     clear HL
     cases b with
     | true =>
      go_wp2_with (first
       | (go_at_call 238; refine HL'.out.mono ?_; clear HL'; rintro e w1 ⟨rfl, hb1⟩)
       | (go_at_call 239; refine (HS.out _ hb1).mono ?_; rintro e w2 ⟨rfl, hS2⟩))
      exact ⟨⟨j, _, rfl, by omega, (swap_perm _ _).trans hp, hs.swap (by omega) (by omega) hb, hS2⟩, by simp [intOf]⟩
     | false =>
      go_wp2_with (first
       | (go_at_call 238; refine HL'.out.mono ?_; clear HL'; rintro e w1 ⟨rfl, hb1⟩))
      exact ⟨⟨i + 1, l, rfl, by omega, by omega, hp, hs.stop (by omega) (.inr ⟨by omega, hb⟩), hS.goes hb1⟩, by simp [intOf]; omega⟩
  ·have hin' : i = n ∨ i = n + 1 := by omega
   go_wp2
   refine bodyPost_end (v := .tuple #[]) (by simp [results, Tryz.f133, go_sem]) rfl ⟨rfl, l, hp, fun a b hab hb hl hne => hs a b hab (by omega) hl hne, hS⟩
theorem pdq_c (w0 : World) (B n c : Nat) (E : Nat → Int × Tm) (l0 : List Nat) (hl0 : l0.length = n) (hn : n ≤ 12) (k : Int) (W : World) (h : SrtS w0 B E l0 W) :
  Calls Tryz.prog 109 #[.iface 159 (.slice (some ⟨B, 0, none⟩) n c), .int .i64 0, .int .i64 (n : Int), .int .i64 k] W fun e w' => e = .returned (.tuple #[]) ∧ ∃ l, l.Perm l0 ∧ InsTo E l n none ∧ SrtS w0 B E l w' := by
 have HI := Lib.hid (insert_c w0 B n c E l0 hl0 (by omega) W h)
 clear h
 go_enter Tryz.func109, Tryz.ntmps109
 go_wp2
 go_loopw [1, 2] (fun v1 v2 wr => v1 = .int .i64 0 ∧ v2 = .int .i64 (n : Int) ∧ wr = W) (fun _ _ _ => 0)
 case atStart => exact ⟨rfl, rfl, rfl⟩
 case round =>
  obtain ⟨rfl, rfl, rfl⟩ := hrel
  go_wp2_with (first | (go_at_call 133; refine HI.out.mono ?_; clear HI; rintro e w1 ⟨rfl, h1⟩))
  refine bodyPost_ret (v := .tuple #[]) (by simp [results, Tryz.f109, go_sem]) rfl ?_
  exact ⟨rfl, h1⟩
theorem len64_c (n : Int) (h : n = 2 ∨ n = 3 ∨ n = 4 ∨ n = 5) (w : World) : Calls Tryz.prog 132 #[.int .u64 n] w fun e w' => (∃ k, e = .returned (.int .i64 k)) ∧ w' = w := by
 rcases h with rfl | rfl | rfl | rfl
 all_goals
  go_enter Tryz.func132, Tryz.ntmps132
  go_wp2
  go_ret
  exact ⟨⟨_, rfl⟩, rfl⟩
theorem bitsLen_c (n : Int) (h : n = 2 ∨ n = 3 ∨ n = 4 ∨ n = 5) (w : World) : Calls Tryz.prog 108 #[.int .u64 n] w fun e w' => (∃ k, e = .returned (.int .i64 k)) ∧ w' = w := by
 have HL := Lib.hid (len64_c n h w)
 rcases h with rfl | rfl | rfl | rfl
 all_goals
  go_enter Tryz.func108, Tryz.ntmps108
  go_wp2_with (first | (go_at_call 132; refine HL.out.mono ?_; clear HL; rintro e w1 ⟨⟨k, rfl⟩, rfl⟩))
  go_ret
  exact ⟨⟨_, rfl⟩, rfl⟩
theorem sort_c (w0 : World) (B n c : Nat) (E : Nat → Int × Tm) (l0 : List Nat) (hl0 : l0.length = n) (hn : n ≤ 5) (W : World) (h : SrtS w0 B E l0 W) :
  Calls Tryz.prog 76 #[.iface 159 (.slice (some ⟨B, 0, none⟩) n c)] W fun e w' => e = .returned (.tuple #[]) ∧ ∃ l, l.Perm l0 ∧ InsTo E l n none ∧ SrtS w0 B E l w' := by
 have mL := reach_len (.slice (some ⟨B, 0, none⟩) n c)
 have eL : Enters Tryz.prog 237 := enters_of Tryz.func237 (by kernel_rfl) rfl
 have HL := Lib.hid (len_c B n c W)
 have HP := Lib.hid (fun k => pdq_c w0 B n c E l0 hl0 (by omega) k W h)
 have HS := Lib.hid h
 clear h
 go_enter Tryz.func76, Tryz.ntmps76
 by_cases h2 : n ≤ 1
 ·go_wp2_with (first | (go_at_call 237; refine HL.out.mono ?_; clear HL; rintro e w1 ⟨rfl, rfl⟩))
  refine bodyPost_ret (v := .tuple #[]) (by simp [results, Tryz.f76, go_sem]) rfl ?_
  exact ⟨rfl, l0, List.Perm.refl _, fun a b hab hb => by omega, HS.out⟩
 ·clear HS
  rcases (show n = 2 ∨ n = 3 ∨ n = 4 ∨ n = 5 by omega) with rfl | rfl | rfl | rfl
  all_goals
   simp only [Int.cast_ofNat_Int] at HP HL
   go_wp2_with (first
    | (go_at_call 237; refine HL.out.mono ?_; clear HL; rintro e w1 ⟨rfl, rfl⟩)
    | (go_at_call 108; refine (bitsLen_c _ (by decide) _).mono ?_; rintro e w1 ⟨⟨k, rfl⟩, rfl⟩)
    | (go_at_call 109; refine (HP.out _).mono ?_; clear HP; rintro e w2 ⟨rfl, h3⟩))
   refine bodyPost_end (v := .tuple #[]) (by simp [results, Tryz.f76, go_sem]) rfl ?_
   exact ⟨rfl, h3⟩
open Go.RowKit Go.Proofs.YtcjdideliifkhaaGreatDoorW.PrintWords Go.Proofs.YtcjdideliifkhaaGreatDoorW.PrintLast Go.Proofs.YtcjdideliifkhaaGreatDoorW.PrintMore PFnCronTextAfterAnywhere
structure RowN (w0 w : World) (e : TypeId) (k : Nat) (v : Value) (us : List (List Value)) : Prop where
 own : w.ownsRow w0.heap.size e k v us.length us.flatten
 wide : ∀ u ∈ us, u.length = k
 below : Below w0.heap.size w0 w
theorem RowN.nil (w0 w : World) (e : TypeId) (k : Nat) (h : Below w0.heap.size w0 w) : RowN w0 w e k (.slice none 0 0) [] := ⟨⟨by simp, .inl ⟨rfl, rfl⟩⟩, fun u hu => (by cases hu), h⟩
theorem RowN.goes {w0 w w' : World} {e : TypeId} {k : Nat} {v : Value} {us : List (List Value)} (h : RowN w0 w e k v us) (hb : Below w.heap.size w w') : RowN w0 w' e k v us := by
 refine ⟨?_, h.wide, below_step h.below hb⟩
 obtain ⟨⟨hl, h1 | ⟨g, cap, cur, rfl, hg, hc, hr⟩⟩, _, _⟩ := h
 ·exact ⟨hl, .inl h1⟩
 ·exact ⟨hl, .inr ⟨g, cap, cur, rfl, hg, blk_below hc hb, hr⟩⟩
theorem flatten_at {k : Nat} : ∀ (us : List (List Value)), (∀ u ∈ us, u.length = k) → ∀ i j (hi : i < us.length) (hj : j < k), us.flatten[i * k + j]? = (us[i])[j]? := by
 intro us
 induction us with
 | nil => intro _ i j hi; cases hi
 | cons u us ih =>
  intro hw i j hi hj
  have hu := hw u (List.mem_cons_self ..)
  cases i with
  | zero => rw [List.flatten_cons, Nat.zero_mul, Nat.zero_add, List.getElem?_append_left (by omega)]; rfl
  | succ i =>
   rw [List.flatten_cons, show (i + 1) * k + j = u.length + (i * k + j) by rw [Nat.add_mul, hu]; omega, List.getElem?_append_right (by omega), Nat.add_sub_cancel_left]
   exact ih (fun x hx => hw x (List.mem_cons_of_mem _ hx)) i j (by simpa using hi) hj
theorem RowN.block {w0 w : World} {e : TypeId} {k : Nat} {v : Value} {us : List (List Value)} (h : RowN w0 w e k v us) (hne : us ≠ []) :
  ∃ g c cur, v = .slice (some ⟨g, 0, none⟩) us.length c ∧ w0.heap.size ≤ g ∧ w.heap[g]? = some (.cells cur e (0, 0)) ∧ ∀ i j (hi : i < us.length), j < k → cur[i * k + j]? = (us[i])[j]? := by
 obtain ⟨⟨hl, h1 | ⟨g, cap, cur, rfl, hg, hc, h1, h2, h3, h4⟩⟩, hw, _⟩ := h
 ·exact absurd (List.eq_nil_of_length_eq_zero h1.2) hne
 ·refine ⟨g, cap, cur, rfl, hg, hc, fun i j hi hj => ?_⟩
  rw [← flatten_at us hw i j hi hj, ← h4, List.getElem?_take, if_pos ?_, Array.getElem?_toList]
  have : (i + 1) * k ≤ us.length * k := Nat.mul_le_mul_right _ hi
  rw [Nat.add_mul] at this; omega
theorem RowN.cells {w0 w : World} {e : TypeId} {k : Nat} {v : Value} {us : List (List Value)} (h : RowN w0 w e k v us) (hne : us ≠ []) :
  ∃ g c, v = .slice (some ⟨g, 0, none⟩) us.length c ∧ w0.heap.size ≤ g ∧ ∀ i j (hi : i < us.length), j < k → w.cell? ⟨g, i * k + j, none⟩ = (us[i])[j]? := by
 obtain ⟨g, c, cur, h1, h2, h3, h4⟩ := h.block hne
 exact ⟨g, c, h1, h2, fun i j hi hj => by rw [blk_cell h3]; exact h4 i j hi hj⟩
structure ElemN (T e : TypeId) (i : TypeInfo) (z : Value) (k : Nat) : Prop where
 sl : Tryz.prog.underlying T = some (.slice e)
 inf : Tryz.prog.info? e = some i
 zero : i.zero = some z
 size : i.size = k
 pos : 0 < k
 bytes : i.bytes ≤ 16000
 cells : z.cells.size = k
theorem wp_rowN {o : Oper} {a : Act} {K : Act → World → Prop} {Q : Exit → Act → World → Prop} {w0 w : World} {T e : TypeId} {i : TypeInfo} {z : Value} {k : Nat} (hE : ElemN T e i z k) {v : Value} {us : List (List Value)} (hR : RowN w0 w e k v us)
  (s x : Operand) (ho : o.op = .call { callee := .builtin .append, args := #[s, x], argTypes := #[T, T] }) (hs : a.eval s = v) (g c : Nat) (u : List Value) (hx : a.eval x = .slice (some ⟨g, 0, none⟩) 1 c) (hk : u.length = k) (hu : ∀ j (h : j < u.length), w.cell? ⟨g, j, none⟩ = some u[j]) (hu1 : ∀ x ∈ u, x.oneCell' = true) (hl : us.length ≤ 1000)
  (h : ∀ v' w', RowN w0 w' e k v' (us ++ [u]) → w.grownBy w' v.ownBlock → K (a.put o.dst v') w') : o.wp Tryz.prog a w K Q := by
 have hb := hE.bytes
 refine wp_append_own w s x T ho w0.heap.size e i z k i.bytes hE.sl hE.inf hE.zero hE.size rfl hE.cells hE.pos v us.length us.flatten hs hR.own ⟨g, 0, none⟩ 1 c u hx (by rw [hk, Nat.one_mul]) ?_ hu1 ?_ ?_ hR.below.size ?_
 ·intro j u' hj
  obtain ⟨h1, h2⟩ := List.getElem?_eq_some_iff.1 hj
  rw [add_plain, ← h2]; exact hu j h1
 ·unfold maxLen; omega
 ·calc (us.length + 1) * i.bytes ≤ (1000 + 1) * 16000 := Nat.mul_le_mul (by omega) hb
   _ ≤ _ := by decide
 ·intro v' w' hown hg hn
  refine h v' w' ⟨by rw [List.length_append, List.flatten_append]; simpa using hown, fun u' hu' => ?_, hR.below.grown hg hR.below.size (fun k' hk' => ?_)⟩ hg
  ·rcases List.mem_append.1 hu' with hu' | hu'
   ·exact hR.wide u' hu'
   ·rw [List.mem_singleton] at hu'; rw [hu']; exact hk
  ·obtain ⟨⟨_, h1 | ⟨g', cap, cur, rfl, hg', _⟩⟩, _, _⟩ := hR
   ·rw [h1.1] at hk'; cases hk'
   ·cases hk'; exact hg'
theorem wpList_rowN {ops : Array Oper} {rest : List Oper} {o : Oper} {a : Act} {Q : Exit → Act → World → Prop} {w0 w : World} {T e : TypeId} {i : TypeInfo} {z : Value} {k : Nat} (hE : ElemN T e i z k) {v : Value} {us : List (List Value)} (hR : RowN w0 w e k v us)
  (hgd : o.guard = none) (s x : Operand) (ho : o.op = .call { callee := .builtin .append, args := #[s, x], argTypes := #[T, T] }) (hs : a.eval s = v) (g c : Nat) (u : List Value) (hx : a.eval x = .slice (some ⟨g, 0, none⟩) 1 c) (hk : u.length = k) (hu : ∀ j (h : j < u.length), w.cell? ⟨g, j, none⟩ = some u[j]) (hu1 : ∀ x ∈ u, x.oneCell' = true) (hl : us.length ≤ 1000)
  (h : ∀ v' w', RowN w0 w' e k v' (us ++ [u]) → w.grownBy w' v.ownBlock → wpList Tryz.prog ops Q rest (a.put o.dst v') w') : wpList Tryz.prog ops Q (o :: rest) a w :=
 wpList_plain hgd fun _ hK => wp_rowN hE hR s x ho hs g c u hx hk hu hu1 hl fun v' w' h1 h2 => hK _ _ (h v' w' h1 h2)
theorem RowN.apart {w0 w w' : World} {e : TypeId} {k : Nat} {v : Value} {us : List (List Value)} (hR : RowN w0 w e k v us) (hg : w.grownBy w' v.ownBlock) {p : Nat} {t : TypeId} {cs : Array Value} (hp : w.heap[p]? = some (.cells cs t (0, 0))) (ht : t ≠ e) : w'.heap[p]? = some (.cells cs t (0, 0)) := by
 rw [hg.block p (blk_lt hp) ?_]; exact hp
 intro he
 obtain ⟨⟨_, h1 | ⟨g', cap, cur, rfl, hg', hc, _⟩⟩, _, _⟩ := hR
 ·rw [h1.1] at he; cases he
 ·cases he; rw [hc] at hp; cases hp; exact ht rfl
noncomputable def info152 : TypeInfo := (Tryz.prog.info? 152).get (by kernel_rfl)
theorem elem152 : ElemN 151 152 info152 (.pointer none) 1 := ⟨by kernel_rfl, by kernel_rfl, by kernel_rfl, by kernel_rfl, by decide, by rw [show info152.bytes = 8 by kernel_rfl]; decide, by kernel_rfl⟩
noncomputable def info90 : TypeInfo := (Tryz.prog.info? 90).get (by kernel_rfl)
theorem elem90 : ElemN 98 90 info90 (tm 0 0 (.pointer none)) 3 := ⟨by kernel_rfl, by kernel_rfl, by kernel_rfl, by kernel_rfl, by decide, by rw [show info90.bytes = 24 by kernel_rfl]; decide, by kernel_rfl⟩
noncomputable def info3 : TypeInfo := (Tryz.prog.info? 3).get (by kernel_rfl)
theorem elem3 : ElemN 24 3 info3 (.int .i64 0) 1 := ⟨by kernel_rfl, by kernel_rfl, by kernel_rfl, by kernel_rfl, by decide, by rw [show info3.bytes = 8 by kernel_rfl]; decide, by kernel_rfl⟩
def TmRow (w : World) (g n : Nat) (T : Nat → Tm) : Prop := ∀ i, i < n → w.cell? ⟨g, i * 3, none⟩ = some (.int .u64 (T i).1) ∧ w.cell? ⟨g, i * 3 + 1, none⟩ = some (.int .i64 (T i).2) ∧ w.cell? ⟨g, i * 3 + 2, none⟩ = some (.pointer none)
theorem TmRow.goes {w w' : World} {g n : Nat} {T : Nat → Tm} (h : TmRow w g n T) (hb : Below w.heap.size w w') : TmRow w' g n T := fun i hi => ⟨pw_cell_below hb (h i hi).1, pw_cell_below hb (h i hi).2.1, pw_cell_below hb (h i hi).2.2⟩
def entAt (cs : Array Value) (id : Int) (t : Tm) : Prop := cs[0]? = some (.int .i64 id) ∧ cs[2]? = some (.int .u64 t.1) ∧ cs[3]? = some (.int .i64 t.2) ∧ cs[4]? = some (.pointer none)
structure EntS (w0 w : World) (n : Nat) (T : Nat → Tm) (E : Nat → Int × Tm) (ps : List Nat) (v : Value) : Prop where
 row : RowN w0 w 152 1 v (ps.map fun p => [ptr p])
 le : ps.length ≤ n
 ent : ps.map E = (List.range ps.length).map fun (k : Nat) => ((k : Int), T k)
 mem : ∀ p ∈ ps, ∃ cs, w.heap[p]? = some (.cells cs 157 (0, 0)) ∧ entAt cs (E p).1 (E p).2
theorem EntS.next {w0 wr w' : World} {n : Nat} {T : Nat → Tm} {E : Nat → Int × Tm} {ps : List Nat} {v v' : Value} (hS : EntS w0 wr n T E ps v) {k : Nat} (hk : ps.length = k) (hlt : k < n) (o1 o3 : Obj) (cs : Array Value) (hcs : entAt cs (k : Int) (T k))
  (hr : RowN w0 w' 152 1 v' ((ps.map fun p => [ptr p]) ++ [[ptr (wr.heap.size + 1)]])) (hg : (((wr.alloc o1).alloc (.cells cs 157)).alloc o3).grownBy w' v.ownBlock) :
  EntS w0 w' n T (fun q => if q = wr.heap.size + 1 then ((k : Int), T k) else E q) (ps ++ [wr.heap.size + 1]) v' := by
 have hb : Below wr.heap.size wr (((wr.alloc o1).alloc (.cells cs 157)).alloc o3) := below_alloc (below_alloc (below_alloc (Below.refl _ _) _) _) _
 have hR := hS.row.goes hb
 have hne : ∀ p ∈ ps, p ≠ wr.heap.size + 1 := fun p hp he => by
  obtain ⟨c, h1, _⟩ := hS.mem p hp
  have := blk_lt h1
  omega
 refine ⟨by simpa using hr, by rw [List.length_append, hk]; exact hlt, ?_, fun p hp => ?_⟩
 ·rw [List.map_append, List.length_append, hk, List.length_singleton, List.range_succ, List.map_append, ← hk, ← hS.ent, hk]
  congr 1
  ·exact List.map_congr_left fun p hp => if_neg (hne p hp)
  ·simp
 ·rcases List.mem_append.1 hp with hp | hp
  ·obtain ⟨c, h1, h2⟩ := hS.mem p hp
   rw [if_neg (hne p hp)]
   exact ⟨c, hR.apart hg (blk_below h1 hb) (by decide), h2⟩
  ·rw [List.mem_singleton] at hp
   subst hp
   rw [if_pos rfl]
   have h1 := blk_new (wr.alloc o1) (.cells cs 157)
   rw [show (wr.alloc o1).heap.size = wr.heap.size + 1 by simp] at h1
   exact ⟨cs, hR.apart hg (blk_alloc h1 o3) (by decide), hcs⟩
theorem lessT_irrefl (t : Tm) : lessT t t = false := by
 cases h : lessT t t with
 | false => rfl
 | true => rw [lessT_asymm h] at h; cases h
theorem EntS.of {w0 w : World} {n : Nat} {T : Nat → Tm} {E : Nat → Int × Tm} {ps : List Nat} {v : Value} (hS : EntS w0 w n T E ps v) (p : Nat) (hp : p ∈ ps) : ∃ k : Nat, k < ps.length ∧ E p = ((k : Int), T k) := by
 have h := List.mem_map_of_mem (f := E) hp
 rw [hS.ent] at h
 obtain ⟨k, h1, h2⟩ := List.mem_map.1 h
 exact ⟨k, List.mem_range.1 h1, h2.symm⟩
theorem EntS.to {w0 w : World} {n : Nat} {T : Nat → Tm} {E : Nat → Int × Tm} {ps : List Nat} {v : Value} (hS : EntS w0 w n T E ps v) (k : Nat) (hk : k < ps.length) : ∃ p ∈ ps, E p = ((k : Int), T k) := by
 have h : ((k : Int), T k) ∈ ps.map E := by rw [hS.ent]; exact List.mem_map.2 ⟨k, List.mem_range.2 hk, rfl⟩
 obtain ⟨p, h1, h2⟩ := List.mem_map.1 h
 exact ⟨p, h1, h2⟩
theorem EntS.srt {w0 w : World} {n : Nat} {T : Nat → Tm} {E : Nat → Int × Tm} {ps : List Nat} {v : Value} (hS : EntS w0 w n T E ps v) (hn : ps.length = n) (hn0 : 0 < n) (hok : ∀ i, i < n → Tm.Ok (T i)) :
  ∃ B c, v = .slice (some ⟨B, 0, none⟩) n c ∧ SrtS w0 B E ps w := by
 obtain ⟨B, c, cur, h1, h2, h3, h4⟩ := hS.row.block (fun h => by have := congrArg List.length h; simp at this; subst this; simp at hn; omega)
 refine ⟨B, c, by rw [h1, List.length_map, hn], hS.row.below, h2, ⟨cur, h3, fun i hi => ?_⟩, fun p hp => ?_⟩
 ·have := h4 i 0 (by simpa using hi) (by decide)
  rw [Nat.mul_one, Nat.add_zero] at this
  rw [this]; simp
 ·obtain ⟨cs, g1, g2, g3, g4, g5⟩ := hS.mem p hp
  obtain ⟨k, k1, k2⟩ := hS.of p hp
  refine ⟨fun e => ?_, by rw [k2]; exact hok k (by omega), ⟨by rw [blk_cell g1]; exact g2, by rw [blk_cell g1]; exact g3, by rw [blk_cell g1]; exact g4, by rw [blk_cell g1]; exact g5⟩⟩
  subst e
  rw [h3] at g1; cases g1
structure OutS (w2 w : World) (E : Nat → Int × Tm) (l : List Nat) (i : Nat) (v : Value) : Prop where
 row : RowN w2 w 3 1 v ((l.take i).map fun p => [.int .i64 (E p).1])
 le : i ≤ l.length
theorem OutS.final {w0 w w2 w3 : World} {n : Nat} {T : Nat → Tm} {E : Nat → Int × Tm} {ps l : List Nat} {v v0 : Value} (hO : OutS w2 w3 E l n v) (hl : l.length = n) (hn0 : 0 < n) (hS : EntS w0 w n T E ps v0) (hn : ps.length = n) (hp : l.Perm ps) (hi : InsTo E l n none) :
  ∃ A c', ∃ k : Nat, k < n ∧ v = .slice (some ⟨A, 0, none⟩) n c' ∧ w3.cell? ⟨A, 0, none⟩ = some (.int .i64 (k : Int)) ∧ ∀ j, j < n → lessT (T j) (T k) = false := by
 have hlen : ((l.take n).map fun p => [Value.int .i64 (E p).1]).length = n := by simp; omega
 obtain ⟨A, c', h1, _, h2⟩ := hO.row.cells (fun h => by have := congrArg List.length h; rw [hlen] at this; simp at this; omega)
 have h0 : 0 < l.length := by omega
 obtain ⟨k, k1, k2⟩ := hS.of l[0] (hp.mem_iff.1 (List.getElem_mem h0))
 refine ⟨A, c', k, by omega, by rw [h1, hlen], ?_, fun j hj => ?_⟩
 ·have := h2 0 0 (by omega) (by decide)
  rw [Nat.zero_mul, Nat.zero_add] at this
  rw [this, List.getElem_map, List.getElem_take]
  simp [k2]
 ·obtain ⟨p, p1, p2⟩ := hS.to j (by omega)
  obtain ⟨b, hb, hpb⟩ := List.getElem_of_mem (hp.mem_iff.2 p1)
  have e0 : (E l[0]).2 = T k := by rw [k2]
  have eb : (E l[b]).2 = T j := by rw [hpb, p2]
  by_cases hb0 : b = 0
  ·subst hb0
   rw [← e0, ← eb]; exact lessT_irrefl _
  ·have := hi 0 b (by omega) (by omega) hb (by simp)
   rw [e0, eb] at this; exact this
theorem byTime_c (g c n : Nat) (T : Nat → Tm) (hn0 : 0 < n) (hn : n ≤ 5) (hok : ∀ i, i < n → Tm.Ok (T i)) (w : World) (hg : g < w.heap.size) (ht : TmRow w g n T) :
  Calls Tryz.prog 40 #[.slice (some ⟨g, 0, none⟩) n c] w fun e w' => (∃ A c', ∃ k : Nat, k < n ∧ e = .returned (.slice (some ⟨A, 0, none⟩) n c') ∧ w'.cell? ⟨A, 0, none⟩ = some (.int .i64 (k : Int)) ∧ ∀ j, j < n → lessT (T j) (T k) = false) ∧ Below w.heap.size w w' := by
 go_enter Tryz.func40, Tryz.ntmps40
 go_wp2
 go_loopw [3, 11] (fun v3 v11 wr => ∃ (E : Nat → Int × Tm) (ps : List Nat), v11 = .int .i64 (ps.length : Int) ∧ EntS w wr n T E ps v3) (fun _ v11 _ => n - (intOf v11).toNat)
 case atStart => exact ⟨fun _ => (0, 0, 0), [], rfl, RowN.nil _ _ _ _ (Below.refl _ _), Nat.zero_le _, rfl, fun p hp => by cases hp⟩
 case round =>
  obtain ⟨E, ps, rfl, hS⟩ := hrel
  have hle := hS.le
  by_cases hlt : ps.length < n
  ·obtain ⟨k, hk⟩ : ∃ k, ps.length = k := ⟨_, rfl⟩
   rw [hk] at hlt hle ⊢
   obtain ⟨c0, c1, c2⟩ := ht.goes hS.row.below k hlt
   obtain ⟨t, htk⟩ : ∃ t, T k = t := ⟨_, rfl⟩
   rw [htk] at c0 c1
   have HS := Lib.hid hS
   have HK := Lib.hid hk
   have HTK := Lib.hid htk
   clear hS hk htk
   go_wp2_with (first | (refine wpList_rowN elem152 (HS.out.row.goes (below_alloc (below_alloc (below_alloc (Below.refl _ _) _) _) _)) rfl _ _ rfl rfl (wr.heap.size + 1 + 1) 1 [ptr (wr.heap.size + 1)] rfl rfl (by intro j hj; obtain rfl : j = 0 := (by simp at hj; omega); simp [go_sem]) (by intro x hx; rw [List.mem_singleton] at hx; subst hx; rfl) (by have := HS.out.le; simp; omega) ?_; intro v' w' hr hgb; have HR := Lib.hid hr; have HG := Lib.hid hgb; clear hr hgb))
   exact ⟨⟨_, ps ++ [wr.heap.size + 1], by rw [List.length_append, HK.out]; rfl, HS.out.next HK.out hlt _ _ _ (by rw [HTK.out]; exact ⟨rfl, rfl, rfl, rfl⟩) HR.out HG.out⟩, by simp [intOf]; omega⟩
  ·have hkn : ps.length = n := by omega
   rw [hkn]
   obtain ⟨B, c', rfl, hsrt⟩ := hS.srt hkn hn0 hok
   have HSO := Lib.hid (sort_c w B n c' E ps hkn hn wr hsrt)
   have HS := Lib.hid hS
   have HK := Lib.hid hkn
   clear hS hkn hsrt
   go_wp2_with (first | (go_at_call 76; refine HSO.out.mono ?_; clear HSO; rintro e w2 ⟨rfl, l, hp, hins, h2⟩; have HP := Lib.hid hp; have HI := Lib.hid hins; have H2 := Lib.hid h2; clear hp hins h2))
   have hln : l.length = n := by rw [HP.out.length_eq, HK.out]
   have HL := Lib.hid hln
   clear hln
   go_loopw [6, 29] (fun v6 v29 w3 => ∃ i : Nat, v29 = .int .i64 (i : Int) ∧ OutS w2 w3 E l i v6) (fun _ v29 _ => n - (intOf v29).toNat)
   case atStart => exact ⟨0, rfl, RowN.nil _ _ _ _ (Below.refl _ _), Nat.zero_le _⟩
   case round =>
    obtain ⟨i, rfl, hO⟩ := hrel
    have hi := hO.le
    rw [HL.out] at hi
    have hS3 := H2.out.goes hO.row.below
    by_cases hin : i < n
    ·have hil : i < l.length := by rw [HL.out]; exact hin
     have ci := hS3.cell i hil
     have cp := (hS3.ent _ (List.getElem_mem hil)).2.2.id
     obtain ⟨p, hpi⟩ : ∃ p, l[i] = p := ⟨_, rfl⟩
     rw [hpi] at ci cp
     obtain ⟨x, hx⟩ : ∃ x, (E p).1 = x := ⟨_, rfl⟩
     rw [hx] at cp
     have HO := Lib.hid hO
     have he : (l.take (i + 1)).map (fun p => [Value.int .i64 (E p).1]) = ((l.take i).map fun p => [Value.int .i64 (E p).1]) ++ [[.int .i64 x]] := by rw [List.take_succ_eq_append_getElem hil, List.map_append, hpi, ← hx]; rfl
     have HE := Lib.hid he
     clear hO hS3 hpi hx he
     go_wp2_with (first | (refine wpList_rowN elem3 (HO.out.row.goes (below_alloc (Below.refl _ _) _)) rfl _ _ rfl rfl wr.heap.size 1 [.int .i64 x] rfl rfl (by intro j hj; obtain rfl : j = 0 := (by simp at hj; omega); simp [go_sem]) (by intro x hx; rw [List.mem_singleton] at hx; subst hx; rfl) (by simp; omega) ?_; intro v' w' hr hgb; have HR := Lib.hid hr; clear hr hgb))
     exact ⟨⟨i + 1, rfl, by rw [HE.out]; exact HR.out, hil⟩, by simp [intOf]; omega⟩
    ·obtain rfl : i = n := by omega
     have hO' := Lib.hid hO
     clear hO hS3
     go_wp2
     go_ret
     obtain ⟨A, c2, k, k1, rfl, k2, k3⟩ := hO'.out.final HL.out hn0 HS.out HK.out HP.out HI.out
     exact ⟨⟨A, c2, k, k1, rfl, k2, k3⟩, below_step H2.out.below hO'.out.row.below⟩
end Go.Proofs.YtcjdideliifkhaaGreatDoor
