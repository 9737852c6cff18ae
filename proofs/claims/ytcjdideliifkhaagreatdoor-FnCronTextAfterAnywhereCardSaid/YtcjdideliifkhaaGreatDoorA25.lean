import Derived.Test.YtcjdideliifkhaaGreatDoorA10
import Derived.Test.YtcjdideliifkhaaGreatDoorA07
import Derived.Test.YtcjdideliifkhaaGreatDoorA09
set_option maxRecDepth 100000
set_option maxHeartbeats 16000000
namespace Go.Proofs.YtcjdideliifkhaaGreatDoor
open Go.RowKit Go.Proofs.YtcjdideliifkhaaGreatDoorW.PrintWords Go.Proofs.YtcjdideliifkhaaGreatDoorW.PrintLast Go.Proofs.YtcjdideliifkhaaGreatDoorW.PrintMore PFnCronTextAfterAnywhere
set_option linter.unusedVariables false
set_option linter.unusedSimpArgs false
abbrev Txt := List UInt8
def ofL (l : Txt) : ByteArray := ⟨l.toArray⟩
def toL (s : ByteArray) : Txt := s.data.toList
theorem toL_ofL (l : Txt) : toL (ofL l) = l := rfl
theorem ofL_toL (s : ByteArray) : ofL (toL s) = s := rfl
theorem toL_len (s : ByteArray) : (toL s).length = s.size := rfl
theorem toList_toL (s : ByteArray) : s.toList = toL s := ByteArray.toList_eq s
theorem ofL_size (l : Txt) : (ofL l).size = l.length := rfl
theorem wr1 {n : Nat} {i : Int} (h0 : 0 ≤ i) (h : i < (n : Int)) (hn : n ≤ 4294967296) : wrap64 (i + 1) = i + 1 := by unfold wrap64; omega
theorem bt_nat (s : ByteArray) (i : Nat) (h : i < s.size) : bt s (i : Int) = ((toL s)[i]'(by rw [toL_len]; exact h)).toNat := by
 unfold bt
 rw [dif_pos (by simpa using h)]
 rfl
theorem extract_ofL (s : ByteArray) (a b : Nat) : s.extract a b = ofL (((toL s).take b).drop a) := by
 apply ByteArray.ext
 rw [ByteArray.data_extract]
 unfold ofL toL
 apply Array.ext'
 simp [List.drop_take]
def pieces (c : UInt8) (pre : Txt) : Txt → List Txt
 | [] => [pre]
 | x :: xs => if x = c then pre :: pieces c [] xs else pieces c (pre ++ [x]) xs
theorem pieces_ne (c : UInt8) : ∀ (l pre : Txt), pieces c pre l ≠ [] := by
 intro l
 induction l with
 | nil => intro pre; simp [pieces]
 | cons x l ih => intro pre; unfold pieces; split <;> simp [ih]
theorem pieces_len (c : UInt8) : ∀ (l pre : Txt), (pieces c pre l).length ≤ l.length + 1 := by
 intro l
 induction l with
 | nil => intro pre; simp [pieces]
 | cons x l ih =>
  intro pre; unfold pieces; split
  ·have := ih []; simp; omega
  ·have := ih (pre ++ [x]); simp; omega
theorem slice_snoc (l : Txt) (a i : Nat) (h : i < l.length) (ha : a ≤ i) : (l.take (i + 1)).drop a = (l.take i).drop a ++ [l[i]] := by
 rw [List.take_succ_eq_append_getElem h, List.drop_append_of_le_length (by simp; omega)]
theorem pieces_l (s : ByteArray) (c : UInt8) (hs : s.size ≤ 4294967296) : ∀ (d i a : Nat) (acc : List ByteArray), i + d = s.size → a ≤ i → acc.length ≤ i →
  Ev (fun k => spec_cronPieces.l0 k s (c.toNat : Int) acc (a : Int) (s.size : Int) (i : Int)) (acc ++ (pieces c (((toL s).take i).drop a) ((toL s).drop i)).map ofL) := by
 intro d
 induction d with
 | zero =>
  intro i a acc hi ha hacc
  have hi' : i = s.size := by omega
  subst hi'
  refine Ev.step (f := fun _ => some (acc ++ (pieces c (((toL s).take s.size).drop a) ((toL s).drop s.size)).map ofL)) (fun k => ?_) (Ev.now _)
  simp only [spec_cronPieces.l0]
  rw [if_neg (by omega), if_pos (by omega), if_pos (by omega), if_pos (by omega)]
  rw [show (toL s).drop s.size = [] from List.drop_eq_nil_of_le (by rw [toL_len]; omega)]
  simp only [pieces, List.map_cons, List.map_nil, Int.toNat_natCast]
  rw [extract_ofL]
 | succ d ih =>
  intro i a acc hi ha hacc
  have hlt : i < s.size := by omega
  have hlt' : i < (toL s).length := by rw [toL_len]; exact hlt
  have hb := bt_nat s i hlt
  have hdr : (toL s).drop i = (toL s)[i] :: (toL s).drop (i + 1) := List.drop_eq_getElem_cons hlt'
  have hw : wrap64 ((i : Int) + 1) = ((i + 1 : Nat) : Int) := by rw [wr1 (n := s.size) (by omega) (by omega) hs]; omega
  by_cases hc : (toL s)[i] = c
  ·have := ih (i + 1) (i + 1) (acc ++ [s.extract a i]) (by omega) (by omega) (by simp; omega)
   rw [show ((toL s).take (i + 1)).drop (i + 1) = [] by simp, List.append_assoc] at this
   rw [hdr]
   simp only [pieces, hc, if_true, List.map_cons]
   rw [← extract_ofL]
   refine Ev.step (fun k => ?_) this
   simp only [spec_cronPieces.l0]
   rw [if_pos (by omega), if_pos (by omega), if_pos (by omega), hb, hc, if_pos rfl, if_pos (by omega), if_pos (by omega), if_pos (by omega), if_pos (by omega), hw]
   simp
  ·have := ih (i + 1) a acc (by omega) (by omega) (by omega)
   rw [slice_snoc _ _ _ hlt' ha] at this
   rw [hdr]
   simp only [pieces, hc, if_false]
   refine Ev.step (fun k => ?_) this
   simp only [spec_cronPieces.l0]
   rw [if_pos (by omega), if_pos (by omega), if_pos (by omega), hb, if_neg (fun h => hc (UInt8.toNat_inj.1 (by omega))), hw]
theorem pieces_f (s : ByteArray) (c : UInt8) (hs : s.size ≤ 4294967296) : Ev (fun k => spec_cronPieces.f k s (c.toNat : Int)) ((pieces c [] (toL s)).map ofL) := by
 have := pieces_l s c hs s.size 0 0 [] (by omega) (by omega) (by simp)
 simpa [spec_cronPieces.f] using this
def dig (c : UInt8) : Bool := 48 ≤ c.toNat && c.toNat ≤ 57
def dval (n : Nat) (c : UInt8) : Nat := 10 * n + (c.toNat - 48)
def val (l : Txt) : Nat := l.foldl dval 0
def Digits (l : Txt) : Prop := l ≠ [] ∧ ∀ c ∈ l, dig c = true
theorem val_mono (l : Txt) : ∀ n, n ≤ l.foldl dval n := by
 induction l with
 | nil => intro n; exact Nat.le_refl _
 | cons c l ih => intro n; have := ih (dval n c); simp only [List.foldl_cons]; unfold dval at *; omega
theorem val_min (l : Txt) : ∀ n, min (l.foldl (fun n c => min (dval n c) 1099511627776) n) 1099511627776 = min (l.foldl dval n) 1099511627776 := by
 induction l with
 | nil => intro n; rfl
 | cons c l ih =>
  intro n
  simp only [List.foldl_cons]
  rw [ih]
  by_cases h : dval n c ≤ 1099511627776
  ·rw [Nat.min_eq_left h]
  ·have h1 := val_mono l (dval n c)
   have h2 := val_mono l 1099511627776
   rw [show min (dval n c) 1099511627776 = 1099511627776 by omega]
   omega
theorem digit_f (c : UInt8) : spec_isDigit.f (c.toNat : Int) = some (dig c) := by
 unfold spec_isDigit.f dig
 by_cases h : 48 ≤ c.toNat
 ·rw [if_pos (by omega)]
  by_cases h2 : c.toNat ≤ 57
  ·rw [decide_eq_true (show (c.toNat : Int) ≤ 57 by omega), decide_eq_true h2, decide_eq_true h]; rfl
  ·rw [decide_eq_false (show ¬ (c.toNat : Int) ≤ 57 by omega), decide_eq_false h2]; simp
 ·rw [if_neg (by omega), decide_eq_false h]; rfl
theorem number_l (s : ByteArray) (hs : s.size ≤ 4294967296) (v : Int) : ∀ (d i n : Nat), i + d = s.size → n ≤ 1099511627776 →
  ∃ r, Ev (fun k => spec_CronNumber.l0 k s v (n : Int) (s.size : Int) (i : Int)) r ∧
   (((∀ c ∈ (toL s).drop i, dig c = true) ∧ r = (((((toL s).drop i).foldl (fun n c => min (dval n c) 1099511627776) n : Nat) : Int), v)) ∨ r = (0, 0)) := by
 intro d
 induction d with
 | zero =>
  intro i n hi hn
  have hi' : i = s.size := by omega
  subst hi'
  have hnil : (toL s).drop s.size = [] := List.drop_eq_nil_of_le (by rw [toL_len]; omega)
  refine ⟨((n : Int), v), Ev.step (f := fun _ => some ((n : Int), v)) (fun k => ?_) (Ev.now _), .inl ⟨by rw [hnil]; simp, by rw [hnil]; rfl⟩⟩
  simp only [spec_CronNumber.l0]
  rw [if_neg (by omega)]
 | succ d ih =>
  intro i n hi hn
  have hlt : i < s.size := by omega
  have hlt' : i < (toL s).length := by rw [toL_len]; exact hlt
  have hb := bt_nat s i hlt
  have hdr : (toL s).drop i = (toL s)[i] :: (toL s).drop (i + 1) := List.drop_eq_getElem_cons hlt'
  have hw : wrap64 ((i : Int) + 1) = ((i + 1 : Nat) : Int) := by rw [wr1 (n := s.size) (by omega) (by omega) hs]; omega
  have hn' : min (dval n (toL s)[i]) 1099511627776 ≤ 1099511627776 := Nat.min_le_right _ _
  cases hd : dig (toL s)[i] with
  | true =>
   obtain ⟨r, hr, hq⟩ := ih (i + 1) (min (dval n (toL s)[i]) 1099511627776) (by omega) hn'
   refine ⟨r, Ev.step (fun k => ?_) hr, ?_⟩
   ·simp only [spec_CronNumber.l0]
    rw [if_pos (by omega), if_pos (by omega), if_pos (by omega), hb, digit_f, hd, Option.bind_some, if_pos rfl, hw]
    congr 1
    have h48 : 48 ≤ ((toL s)[i]).toNat ∧ ((toL s)[i]).toNat ≤ 57 := by unfold dig at hd; simpa using hd
    have e1 : wrap64 (10 * (n : Int)) = 10 * (n : Int) := by unfold wrap64; omega
    have e2 : (((toL s)[i]).toNat - 48 : Int) % 256 = (((toL s)[i]).toNat : Int) - 48 := by omega
    rw [e1, e2]
    have e3 : wrap64 (10 * (n : Int) + ((((toL s)[i]).toNat : Int) - 48)) = 10 * (n : Int) + ((((toL s)[i]).toNat : Int) - 48) := by unfold wrap64; omega
    rw [e3]
    unfold mn dval
    omega
   ·rcases hq with ⟨h1, h2⟩ | h
    ·refine .inl ⟨?_, ?_⟩
     ·rw [hdr]; intro c hc
      rcases List.mem_cons.1 hc with rfl | hc
      ·exact hd
      ·exact h1 c hc
     ·rw [h2, hdr]; rfl
    ·exact .inr h
  | false =>
   refine ⟨(0, 0), Ev.step (f := fun _ => some (0, 0)) (fun k => ?_) (Ev.now _), .inr rfl⟩
   simp only [spec_CronNumber.l0]
   rw [if_pos (by omega), if_pos (by omega), if_pos (by omega), hb, digit_f, hd, Option.bind_some]
   simp
theorem zeros_l (s : ByteArray) (hs : s.size ≤ 4294967296) : ∀ (d i : Nat), i + d = s.size → ∃ r, Ev (fun k => spec_cronZeros.l0 k s (s.size : Int) (i : Int)) r := by
 intro d
 induction d with
 | zero =>
  intro i hi
  refine ⟨true, Ev.step (f := fun _ => some true) (fun k => ?_) (Ev.now _)⟩
  simp only [spec_cronZeros.l0]
  rw [if_neg (by omega)]
 | succ d ih =>
  intro i hi
  have hw : wrap64 ((i : Int) + 1) = ((i + 1 : Nat) : Int) := by rw [wr1 (n := s.size) (by omega) (by omega) hs]; omega
  by_cases c : bt s (i : Int) = 48
  ·obtain ⟨r, hr⟩ := ih (i + 1) (by omega)
   refine ⟨r, Ev.step (fun k => ?_) hr⟩
   simp only [spec_cronZeros.l0]
   rw [if_pos (by omega), if_pos (by omega), if_pos (by omega), if_pos c, hw]
  ·refine ⟨false, Ev.step (f := fun _ => some false) (fun k => ?_) (Ev.now _)⟩
   simp only [spec_cronZeros.l0]
   rw [if_pos (by omega), if_pos (by omega), if_pos (by omega), if_neg c]
theorem number_j1 (s : ByteArray) (hs : s.size ≤ 4294967296) (v : Int) :
  ∃ r, Ev (fun k => spec_CronNumber.j1 k s v) r ∧ ((Digits (toL s) ∧ r = (((min (val (toL s)) 1099511627776 : Nat) : Int), v)) ∨ r = (0, 0)) := by
 by_cases c : toL s = []
 ·refine ⟨(0, 0), Ev.step (f := fun _ => some (0, 0)) (fun k => ?_) (Ev.now _), .inr rfl⟩
  simp only [spec_CronNumber.j1]
  rw [if_pos (by rw [toList_toL]; exact c)]
 ·obtain ⟨r, hr, hq⟩ := number_l s hs v s.size 0 0 (by omega) (by decide)
  refine ⟨r, Ev.step (fun k => ?_) hr, ?_⟩
  ·simp only [spec_CronNumber.j1]
   rw [if_neg (by rw [toList_toL]; exact c)]
   rfl
  ·rw [List.drop_zero] at hq
   rcases hq with ⟨h1, h2⟩ | h
   ·refine .inl ⟨⟨c, h1⟩, ?_⟩
    rw [h2]
    have := val_min (toL s) 0
    have hm : (toL s).foldl (fun n c => min (dval n c) 1099511627776) 0 ≤ 1099511627776 := by
     obtain ⟨a, l, e⟩ := List.exists_cons_of_ne_nil c
     have key : ∀ (l : Txt) n, n ≤ 1099511627776 → l.foldl (fun n c => min (dval n c) 1099511627776) n ≤ 1099511627776 := by
      intro l
      induction l with
      | nil => intro n h; exact h
      | cons x l ih => intro n h; exact ih _ (Nat.min_le_right _ _)
     exact key _ 0 (by decide)
    rw [Nat.min_eq_left hm] at this
    rw [this]
    rfl
   ·exact .inr h
theorem number_f (s : ByteArray) (hs : s.size ≤ 4294967296) :
  ∃ r, Ev (fun k => spec_CronNumber.f k s) r ∧ 0 ≤ r.2 ∧ (r.2 = 1 → Digits (toL s) ∧ r.1 = (min (val (toL s)) 1099511627776 : Nat)) := by
 have hj0 : ∀ b : Bool, ∃ r, (Ev (fun k => spec_CronNumber.j0 k s 1 b) r ∧ 0 ≤ r.2 ∧ (b = true → 1 ≤ s.size → r.2 ≠ 1) ∧ (b = false → r.2 = 1 → Digits (toL s) ∧ r.1 = (min (val (toL s)) 1099511627776 : Nat))) ∨ (b = true ∧ s.size = 0) := by
  intro b
  cases b with
  | false =>
   obtain ⟨r, hr, hq⟩ := number_j1 s hs 1
   refine ⟨r, .inl ⟨Ev.step (fun k => ?_) hr, (by rcases hq with ⟨_, h3⟩ | h <;> simp [*]), fun h => (by cases h), fun _ h1 => ?_⟩⟩
   ·simp only [spec_CronNumber.j0]; simp
   ·rcases hq with ⟨h2, h3⟩ | h
    ·exact ⟨h2, by rw [h3]⟩
    ·rw [h] at h1; cases h1
  | true =>
   by_cases h0 : s.size = 0
   ·exact ⟨(0, 0), .inr ⟨rfl, h0⟩⟩
   ·have hse : (s.extract 1 s.size).size ≤ 4294967296 := by rw [ByteArray.size_extract]; omega
    obtain ⟨r, hr, hq⟩ := number_j1 (s.extract 1 s.size) hse 2
    refine ⟨r, .inl ⟨Ev.step (fun k => ?_) hr, (by rcases hq with ⟨_, h3⟩ | h <;> simp [*]), fun _ _ h1 => ?_, fun h => (by cases h)⟩⟩
    ·simp only [spec_CronNumber.j0]; rw [if_pos trivial, if_pos (by omega)]
    ·rcases hq with ⟨h2, h3⟩ | h
     ·rw [h3] at h1; cases h1
     ·rw [h] at h1; cases h1
 by_cases h0 : s.size = 0
 ·obtain ⟨r, h | h⟩ := hj0 false
  ·refine ⟨r, Ev.congr (fun k => ?_) h.1, h.2.1, h.2.2.2 rfl⟩
   unfold spec_CronNumber.f
   rw [if_neg (by omega)]
  ·cases h.1
 ·have hf := fun b => hj0 b
  by_cases h43 : bt s 0 = 43
  ·obtain ⟨r, h | h⟩ := hj0 true
   ·refine ⟨r, Ev.congr (fun k => ?_) h.1, h.2.1, fun h1 => absurd h1 (h.2.2.1 rfl (by omega))⟩
    unfold spec_CronNumber.f
    rw [if_pos (by omega), if_pos (by omega), if_pos h43]
   ·exact absurd h.2 h0
  ·by_cases h45 : bt s 0 = 45
   ·have hse : (s.extract 1 s.size).size ≤ 4294967296 := by rw [ByteArray.size_extract]; omega
    obtain ⟨z, hz⟩ := zeros_l (s.extract 1 s.size) hse (s.extract 1 s.size).size 0 (by omega)
    obtain ⟨r, h | h⟩ := hj0 z
    ·refine ⟨r, Ev.congr (fun k => ?_) (Ev.bind (g := fun k => spec_cronZeros.f k (s.extract 1 s.size)) (f := fun k t => spec_CronNumber.j0 k s 1 t) hz h.1), h.2.1, fun h1 => ?_⟩
     ·unfold spec_CronNumber.f
      rw [if_pos (by omega), if_pos (by omega), if_neg h43, if_pos h45, if_pos (by omega)]
     ·cases z with
      | true => exact absurd h1 (h.2.2.1 rfl (by omega))
      | false => exact h.2.2.2 rfl h1
    ·exact absurd h.2 h0
   ·obtain ⟨r, h | h⟩ := hj0 false
    ·refine ⟨r, Ev.congr (fun k => ?_) h.1, h.2.1, h.2.2.2 rfl⟩
     unfold spec_CronNumber.f
     rw [if_pos (by omega), if_pos (by omega), if_neg h43, if_neg h45]
    ·cases h.1
def up (c : UInt8) : UInt8 := if 97 ≤ c.toNat ∧ c.toNat ≤ 122 then c - 32 else c
theorem up_nat (c : UInt8) : ((up c).toNat : Int) = if 97 ≤ c.toNat ∧ c.toNat ≤ 122 then (c.toNat : Int) - 32 else c.toNat := by
 unfold up
 split
 ·rename_i h
  rw [UInt8.toNat_sub_of_le]
  ·simp; omega
  ·rw [UInt8.le_iff_toNat_le]; simp; omega
 ·rfl
theorem upper_f (c : UInt8) : spec_cronUpper.f (c.toNat : Int) = some ((up c).toNat : Int) := by
 unfold spec_cronUpper.f
 rw [up_nat]
 by_cases h : 97 ≤ c.toNat
 ·rw [if_pos (by omega)]
  by_cases h2 : c.toNat ≤ 122
  ·rw [if_pos (by omega), if_pos ⟨h, h2⟩]; congr 1; omega
  ·rw [if_neg (by omega), if_neg (by omega)]
 ·rw [if_neg (by omega), if_neg (by omega)]
def sameL : Txt → Txt → Bool
 | [], [] => true
 | x :: a, y :: b => if up x = up y then sameL a b else false
 | _, _ => false
theorem sameL_cons (x y : UInt8) (a b : Txt) : sameL (x :: a) (y :: b) = if up x = up y then sameL a b else false := rfl
theorem sameL_iff : ∀ a b : Txt, sameL a b = true ↔ a.map up = b.map up := by
 intro a
 induction a with
 | nil => intro b; cases b <;> simp [sameL]
 | cons x a ih =>
  intro b
  cases b with
  | nil => simp [sameL]
  | cons y b =>
   rw [sameL_cons, List.map_cons, List.map_cons]
   by_cases c : up x = up y
   ·rw [if_pos c, ih, c]; simp
   ·rw [if_neg c]; simp [c]
theorem sameL_len : ∀ a b : Txt, sameL a b = true → a.length = b.length := by
 intro a b h
 have := congrArg List.length ((sameL_iff a b).1 h)
 simpa using this
theorem same_l (s t : ByteArray) (hs : s.size ≤ 4294967296) (he : s.size = t.size) : ∀ (d i : Nat), i + d = s.size →
  Ev (fun k => spec_cronSame.l0 k s t (s.size : Int) (i : Int)) (sameL ((toL s).drop i) ((toL t).drop i)) := by
 intro d
 induction d with
 | zero =>
  intro i hi
  have hi' : i = s.size := by omega
  rw [show (toL s).drop i = [] from List.drop_eq_nil_of_le (by rw [toL_len]; omega), show (toL t).drop i = [] from List.drop_eq_nil_of_le (by rw [toL_len]; omega)]
  refine Ev.step (f := fun _ => some true) (fun k => ?_) (Ev.now _)
  simp only [spec_cronSame.l0]
  rw [if_neg (by omega)]
 | succ d ih =>
  intro i hi
  have hlt : i < s.size := by omega
  have hls : i < (toL s).length := by rw [toL_len]; exact hlt
  have hlt' : i < (toL t).length := by rw [toL_len]; omega
  have hb := bt_nat s i hlt
  have hbt := bt_nat t i (by omega)
  have hds : (toL s).drop i = (toL s)[i] :: (toL s).drop (i + 1) := List.drop_eq_getElem_cons hls
  have hdt : (toL t).drop i = (toL t)[i] :: (toL t).drop (i + 1) := List.drop_eq_getElem_cons hlt'
  have hw : wrap64 ((i : Int) + 1) = ((i + 1 : Nat) : Int) := by rw [wr1 (n := s.size) (by omega) (by omega) hs]; omega
  have ih' := ih (i + 1) (by omega)
  generalize hx : (toL s)[i] = x at hb hds
  generalize hy : (toL t)[i] = y at hbt hdt
  rw [hds, hdt, sameL_cons]
  clear hds hdt
  by_cases c : up x = up y
  ·rw [if_pos c]
   refine Ev.step (fun k => ?_) ih'
   simp only [spec_cronSame.l0]
   rw [if_pos (by omega), if_pos (by omega), if_pos (by omega), hb, upper_f, Option.bind_some, if_pos (by omega), hbt, upper_f, Option.bind_some, c, if_pos rfl, hw]
  ·rw [if_neg c]
   refine Ev.step (f := fun _ => some false) (fun k => ?_) (Ev.now _)
   simp only [spec_cronSame.l0]
   rw [if_pos (by omega), if_pos (by omega), if_pos (by omega), hb, upper_f, Option.bind_some, if_pos (by omega), hbt, upper_f, Option.bind_some,
    if_neg (fun h => c (UInt8.toNat_inj.1 (by omega)))]
theorem same_f (s t : ByteArray) (hs : s.size ≤ 4294967296) : Ev (fun k => spec_cronSame.f k s t) (sameL (toL s) (toL t)) := by
 by_cases he : s.size = t.size
 ·have := same_l s t hs he s.size 0 (by omega)
  rw [List.drop_zero, List.drop_zero] at this
  refine Ev.congr (fun k => ?_) this
  unfold spec_cronSame.f
  rw [if_pos (by omega)]
  rfl
 ·have hf : sameL (toL s) (toL t) = false := by
   cases h : sameL (toL s) (toL t) with
   | false => rfl
   | true => exact absurd (sameL_len _ _ h) he
  rw [hf]
  refine Ev.congr (f := fun _ => some false) (fun k => ?_) (Ev.now _)
  unfold spec_cronSame.f
  rw [if_neg (by omega)]
def names (kind : Int) : Txt := if kind = 4 then [46, 46, 46, 74, 65, 78, 70, 69, 66, 77, 65, 82, 65, 80, 82, 77, 65, 89, 74, 85, 78, 74, 85, 76, 65, 85, 71, 83, 69, 80, 79, 67, 84, 78, 79, 86, 68, 69, 67] else [83, 85, 78, 77, 79, 78, 84, 85, 69, 87, 69, 68, 84, 72, 85, 70, 82, 73, 83, 65, 84]
def nameL (kind : Int) (v : Nat) : Txt := ((names kind).take (3 * v + 3)).drop (3 * v)
def low (kind : Int) : Int := if kind = 3 then 1 else if kind = 4 then 1 else 0
def high (kind : Int) : Int := if kind = 2 then 23 else if kind = 3 then 31 else if kind = 4 then 12 else if kind = 5 then 6 else 59
theorem low_f (kind : Int) : spec_CronLow.f kind = some (low kind) := by
 unfold spec_CronLow.f low
 split
 ·rfl
 ·split <;> rfl
theorem high_f (kind : Int) : spec_CronHigh.f kind = some (high kind) := by
 unfold spec_CronHigh.f high
 split
 ·rfl
 ·split
  ·rfl
  ·split
   ·rfl
   ·split <;> rfl
theorem name_f (kind : Int) (hk : kind = 4 ∨ kind = 5) (v : Nat) (h0 : low kind ≤ v) (h1 : (v : Int) ≤ high kind) : Ev (fun k => spec_CronName.f k kind (v : Int)) (ofL (nameL kind v)) := by
 have hv : v ≤ 12 := by rcases hk with rfl | rfl <;> simp [high] at h1 <;> omega
 have w1 : wrap64 (3 * (v : Int)) = 3 * (v : Int) := by unfold wrap64; omega
 have w2 : wrap64 (3 * (v : Int) + 3) = 3 * (v : Int) + 3 := by unfold wrap64; omega
 have hn : (names kind).length = if kind = 4 then 39 else 21 := by unfold names; split <;> rfl
 have j1 : Ev (fun k => spec_CronName.j1 k kind (v : Int) (ofL (names kind))) (ofL (nameL kind v)) := by
  refine Ev.step (f := fun _ => some (ofL (nameL kind v))) (fun k => ?_) (Ev.now _)
  simp only [spec_CronName.j1]
  rw [if_neg (by rw [toList_toL, toL_ofL]; unfold names; split <;> simp), low_f, Option.bind_some, if_neg (by omega), high_f, Option.bind_some, if_neg (by omega), w1, w2, if_pos (by omega), if_pos (by omega),
   if_pos (by rw [ofL_size, hn]; rcases hk with rfl | rfl <;> simp [high] at h1 ⊢ <;> omega), extract_ofL]
  rw [show (3 * (v : Int) + 3).toNat = 3 * v + 3 by omega, show (3 * (v : Int)).toNat = 3 * v by omega, toL_ofL]
  rfl
 rcases hk with rfl | rfl
 ·refine Ev.congr (f := fun k => spec_CronName.j0 k 4 (v : Int) (ofL (names 4))) (fun k => ?_) (Ev.step (f := fun k => spec_CronName.j1 k 4 (v : Int) (ofL (names 4))) (fun k => ?_) j1)
  ·unfold spec_CronName.f; rw [if_pos rfl]; rfl
  ·simp only [spec_CronName.j0]; rw [if_neg (by decide)]
 ·refine Ev.congr (f := fun k => spec_CronName.j0 k 5 (v : Int) (ofL [])) (fun k => ?_) (Ev.step (f := fun k => spec_CronName.j1 k 5 (v : Int) (ofL (names 5))) (fun k => ?_) j1)
  ·unfold spec_CronName.f; rw [if_neg (by decide)]; rfl
  ·simp only [spec_CronName.j0]; rfl
def Named (kind : Int) (l : Txt) (v : Nat) : Prop := (kind = 4 ∨ kind = 5) ∧ low kind ≤ v ∧ (v : Int) ≤ high kind ∧ sameL (nameL kind v) l = true
def ValR (kind : Int) (l : Txt) (n : Int) : Prop := (∃ v : Nat, n = v ∧ Named kind l v) ∨ ((∀ v, ¬ Named kind l v) ∧ Digits l ∧ n = (min (val l) 1099511627776 : Nat))
theorem foreign_l (s : ByteArray) (hs : s.size ≤ 4294967296) : ∀ (d i : Nat), i + d = s.size →
  Ev (fun k => spec_cronForeign.l0 k s (s.size : Int) (i : Int)) (((toL s).drop i).any fun c => 128 ≤ c.toNat) := by
 intro d
 induction d with
 | zero =>
  intro i hi
  rw [show (toL s).drop i = [] from List.drop_eq_nil_of_le (by rw [toL_len]; omega)]
  refine Ev.step (f := fun _ => some false) (fun k => ?_) (Ev.now _)
  simp only [spec_cronForeign.l0]
  rw [if_neg (by omega)]
 | succ d ih =>
  intro i hi
  have hlt : i < s.size := by omega
  have hls : i < (toL s).length := by rw [toL_len]; exact hlt
  have hb := bt_nat s i hlt
  have hds : (toL s).drop i = (toL s)[i] :: (toL s).drop (i + 1) := List.drop_eq_getElem_cons hls
  have hw : wrap64 ((i : Int) + 1) = ((i + 1 : Nat) : Int) := by rw [wr1 (n := s.size) (by omega) (by omega) hs]; omega
  rw [hds, List.any_cons]
  by_cases c : 128 ≤ ((toL s)[i]).toNat
  ·rw [decide_eq_true c, Bool.true_or]
   refine Ev.step (f := fun _ => some true) (fun k => ?_) (Ev.now _)
   simp only [spec_cronForeign.l0]
   rw [if_pos (by omega), if_pos (by omega), if_pos (by omega), hb, if_pos (by omega)]
  ·rw [decide_eq_false c, Bool.false_or]
   refine Ev.step (fun k => ?_) (ih (i + 1) (by omega))
   simp only [spec_cronForeign.l0]
   rw [if_pos (by omega), if_pos (by omega), if_pos (by omega), hb, if_neg (by omega), hw]
def foreign (l : Txt) : Bool := l.any fun c => 128 ≤ c.toNat
theorem foreign_f (s : ByteArray) (hs : s.size ≤ 4294967296) : Ev (fun k => spec_cronForeign.f k s) (foreign (toL s)) := by
 have := foreign_l s hs s.size 0 (by omega)
 rw [List.drop_zero] at this
 exact this
theorem value_j2 (s : ByteArray) (hs : s.size ≤ 4294967296) (b : Bool) :
  ∃ r, Ev (fun k => spec_CronValue.j2 k s b) r ∧ 0 ≤ r.2 ∧ (r.2 = 1 → Digits (toL s) ∧ r.1 = (min (val (toL s)) 1099511627776 : Nat)) := by
 obtain ⟨r, hr, hq⟩ := number_f s hs
 have hnum : Ev (fun k => (spec_CronNumber.f k s).bind fun bt147 => some (bt147.1, bt147.2)) r := Ev.bind (g := fun k => spec_CronNumber.f k s) (f := fun _ t => some (t.1, t.2)) hr (Ev.now _)
 cases b with
 | false =>
  refine ⟨r, Ev.step (fun k => ?_) hnum, hq⟩
  simp only [spec_CronValue.j2]; simp
 | true =>
  have hf := foreign_f s hs
  cases hb : foreign (toL s) with
  | true =>
   rw [hb] at hf
   refine ⟨(0, 2), Ev.step (fun k => ?_) (Ev.bind (g := fun k => spec_cronForeign.f k s) (f := fun k t => if t = true then some (0, 2) else (spec_CronNumber.f k s).bind fun bt147 => some (bt147.1, bt147.2)) hf (Ev.congr (f := fun _ => some (0, 2)) (fun k => by simp) (Ev.now _))), by decide, fun h => by cases h⟩
   simp only [spec_CronValue.j2]; simp
  | false =>
   rw [hb] at hf
   refine ⟨r, Ev.step (fun k => ?_) (Ev.bind (g := fun k => spec_cronForeign.f k s) (f := fun k t => if t = true then some (0, 2) else (spec_CronNumber.f k s).bind fun bt147 => some (bt147.1, bt147.2)) hf (Ev.congr (f := fun k => (spec_CronNumber.f k s).bind fun bt147 => some (bt147.1, bt147.2)) (fun k => by simp) hnum)), hq⟩
   simp only [spec_CronValue.j2]; simp
theorem value_l (kind : Int) (hk : kind = 4 ∨ kind = 5) (s : ByteArray) (hs : s.size ≤ 4294967296) : ∀ (d v : Nat), low kind ≤ v → (v : Int) + d = high kind + 1 → (∀ u : Nat, u < v → ¬ Named kind (toL s) u) →
  ∃ r, Ev (fun k => spec_CronValue.l0 k kind s true (v : Int)) r ∧ 0 ≤ r.2 ∧ (r.2 = 1 → ValR kind (toL s) r.1) := by
 have hh : high kind ≤ 12 := by rcases hk with rfl | rfl <;> decide
 intro d
 induction d with
 | zero =>
  intro v h0 h1 hn
  obtain ⟨r, hr, hq⟩ := value_j2 s hs true
  refine ⟨r, Ev.step (fun k => ?_) hr, hq.1, fun h => .inr ⟨fun u hu => ?_, hq.2 h⟩⟩
  ·simp only [spec_CronValue.l0]
   rw [high_f, Option.bind_some, if_neg (by omega)]
  ·by_cases c : u < v
   ·exact hn u c hu
   ·have := hu.2.2.1; omega
 | succ d ih =>
  intro v h0 h1 hn
  have hw : wrap64 ((v : Int) + 1) = ((v + 1 : Nat) : Int) := by unfold wrap64; omega
  have hname := name_f kind hk v h0 (by omega)
  have hsame := same_f (ofL (nameL kind v)) s (by rw [ofL_size]; unfold nameL; simp; omega)
  rw [toL_ofL] at hsame
  cases c : sameL (nameL kind v) (toL s) with
  | true =>
   rw [c] at hsame
   refine ⟨((v : Int), 1), Ev.step (fun k => ?_) (Ev.bind (g := fun k => spec_CronName.f k kind (v : Int)) (f := fun k t => (spec_cronSame.f k t s).bind fun t145 => if t145 = true then some ((v : Int), 1) else spec_CronValue.l0 k kind s true (wrap64 ((v : Int) + 1))) hname
    (Ev.bind (g := fun k => spec_cronSame.f k (ofL (nameL kind v)) s) (f := fun k t145 => if t145 = true then some ((v : Int), 1) else spec_CronValue.l0 k kind s true (wrap64 ((v : Int) + 1))) hsame (Ev.congr (f := fun _ => some ((v : Int), 1)) (fun k => by simp) (Ev.now _)))),
    (by show (0 : Int) ≤ 1; decide), fun _ => .inl ⟨v, rfl, hk, h0, by omega, c⟩⟩
   simp only [spec_CronValue.l0]
   rw [high_f, Option.bind_some, if_pos (by omega)]
  | false =>
   rw [c] at hsame
   obtain ⟨r, hr, hq⟩ := ih (v + 1) (by omega) (by omega) (fun u hu hnu => by
    by_cases e : u < v
    ·exact hn u e hnu
    ·have : u = v := by omega
     subst this; have h4 := hnu.2.2.2; rw [c] at h4; cases h4)
   refine ⟨r, Ev.step (fun k => ?_) (Ev.bind (g := fun k => spec_CronName.f k kind (v : Int)) (f := fun k t => (spec_cronSame.f k t s).bind fun t145 => if t145 = true then some ((v : Int), 1) else spec_CronValue.l0 k kind s true (wrap64 ((v : Int) + 1))) hname
    (Ev.bind (g := fun k => spec_cronSame.f k (ofL (nameL kind v)) s) (f := fun k t145 => if t145 = true then some ((v : Int), 1) else spec_CronValue.l0 k kind s true (wrap64 ((v : Int) + 1))) hsame (Ev.congr (f := fun k => spec_CronValue.l0 k kind s true ((v + 1 : Nat) : Int)) (fun k => by rw [hw]; simp) hr))), hq⟩
   simp only [spec_CronValue.l0]
   rw [high_f, Option.bind_some, if_pos (by omega)]
theorem value_f (kind : Int) (s : ByteArray) (hs : s.size ≤ 4294967296) :
  ∃ r, Ev (fun k => spec_CronValue.f k kind s) r ∧ 0 ≤ r.2 ∧ (r.2 = 1 → ValR kind (toL s) r.1) := by
 have hnot : ¬ (kind = 4 ∨ kind = 5) → ∀ v, ¬ Named kind (toL s) v := fun h v hv => h hv.1
 by_cases hk : kind = 4 ∨ kind = 5
 ·have hlow : ∃ v : Nat, low kind = v ∧ ∀ u : Nat, u < v → ¬ Named kind (toL s) u := by
   rcases hk with rfl | rfl
   ·exact ⟨1, rfl, fun u hu hn => by have := hn.2.1; simp [low] at this; omega⟩
   ·exact ⟨0, rfl, fun u hu => by omega⟩
  obtain ⟨v, hv, hn⟩ := hlow
  have hle : (v : Int) ≤ high kind + 1 := by rw [← hv]; rcases hk with rfl | rfl <;> decide
  obtain ⟨r, hr, hq⟩ := value_l kind hk s hs (high kind + 1 - v).toNat v (by omega) (by omega) hn
  have hj0 : Ev (fun k => spec_CronValue.j0 k kind s true) r := by
   refine Ev.step (fun k => ?_) hr
   simp only [spec_CronValue.j0]
   rw [if_pos trivial, low_f, Option.bind_some, hv]
  refine ⟨r, Ev.congr (fun k => ?_) hj0, hq⟩
  unfold spec_CronValue.f
  rcases hk with rfl | rfl
  ·rw [if_pos rfl]
  ·rw [if_neg (by decide)]; rfl
 ·obtain ⟨r, hr, hq⟩ := value_j2 s hs false
  have h4 : ¬ kind = 4 := fun h => hk (.inl h)
  have h5 : (kind == 5) = false := by simp; exact fun h => hk (.inr h)
  refine ⟨r, Ev.congr (f := fun k => spec_CronValue.j0 k kind s false) (fun k => ?_) (Ev.step (fun k => ?_) hr), hq.1, fun h => .inr ⟨hnot hk, hq.2 h⟩⟩
  ·unfold spec_CronValue.f; rw [if_neg h4, h5]
  ·simp only [spec_CronValue.j0]; simp
def EndsR (kind : Int) (l : Txt) (lo hi : Int) (star single : Bool) : Prop :=
 (∃ e, pieces 45 [] l = [e] ∧ (e = [42] ∨ (e = [63] ∧ (kind = 3 ∨ kind = 5))) ∧ lo = low kind ∧ hi = high kind ∧ star = true ∧ single = true)
 ∨ (∃ e, pieces 45 [] l = [e] ∧ e ≠ [42] ∧ e ≠ [63] ∧ ValR kind e lo ∧ hi = lo ∧ star = false ∧ single = true)
 ∨ (∃ e1 e2, pieces 45 [] l = [e1, e2] ∧ e1 ≠ [42] ∧ e1 ≠ [63] ∧ ValR kind e1 lo ∧ ValR kind e2 hi ∧ star = false ∧ single = false)
theorem worse_f (a b : Int) (ha : 0 ≤ a) (hb : 0 ≤ b) : ∃ v, spec_worse.f a b = some v ∧ 0 ≤ v ∧ (v = 1 → a = 1 ∧ b = 1) := by
 unfold spec_worse.f
 by_cases h0 : a = 0
 ·exact ⟨0, by rw [if_pos h0], by decide, fun h => by cases h⟩
 ·by_cases h1 : b = 0
  ·exact ⟨0, by rw [if_neg h0, if_pos h1], by decide, fun h => by cases h⟩
  ·refine ⟨mx a b, by rw [if_neg h0, if_neg h1], ?_, ?_⟩ <;> unfold mx <;> omega
theorem pieces_total (c : UInt8) : ∀ (l pre : Txt), ((pieces c pre l).map List.length).sum ≤ pre.length + l.length := by
 intro l
 induction l with
 | nil => intro pre; simp [pieces]
 | cons x l ih =>
  intro pre; unfold pieces; split
  ·have := ih []; simp at this ⊢; omega
  ·have := ih (pre ++ [x]); simp at this ⊢; omega
theorem sum_mem (l : List Nat) (x : Nat) (h : x ∈ l) : x ≤ l.sum := by
 induction l with
 | nil => cases h
 | cons a l ih =>
  rcases List.mem_cons.1 h with rfl | h
  ·simp
  ·have := ih h; simp; omega
theorem pieces_mem_len (c : UInt8) (l e : Txt) (h : e ∈ pieces c [] l) : e.length ≤ l.length := by
 have h1 := pieces_total c l []
 have h2 := sum_mem _ _ (List.mem_map_of_mem (f := List.length) h)
 simp at h1; omega
theorem step_f (s : ByteArray) (hs : s.size ≤ 4294967296) :
  ∃ n v, Ev (fun k => spec_CronStep.f k s) (n, v) ∧ 0 ≤ v ∧ (v = 1 → Digits (toL s) ∧ n = val (toL s) ∧ 0 < n ∧ n < 1099511627776) := by
 obtain ⟨r, hr, h0, hq⟩ := number_f s hs
 by_cases h : r.2 = 0 ∨ r.1 = 0
 ·refine ⟨0, 0, Ev.congr (fun k => ?_) (Ev.bind (g := fun k => spec_CronNumber.f k s) (f := fun k bt165 => (if bt165.2 = 0 then (spec_CronStep.j0 k bt165.1 bt165.2 true) else (spec_CronStep.j0 k bt165.1 bt165.2 (bt165.1 == 0)))) hr (Ev.congr (f := fun k => spec_CronStep.j0 k r.1 r.2 true) (fun k => ?_) (Ev.step (f := fun _ => some (0, 0)) (fun k => ?_) (Ev.now _)))), by decide, fun h => by cases h⟩
  ·rfl
  ·by_cases h2 : r.2 = 0
   ·rw [if_pos h2]
   ·rw [if_neg h2, show (r.1 == 0) = true by simp; exact h.resolve_left h2]
  ·simp only [spec_CronStep.j0]; simp
 ·have h2 : r.2 ≠ 0 := fun e => h (.inl e)
  have h1 : r.1 ≠ 0 := fun e => h (.inr e)
  have hb : (r.1 == 0) = false := by simp; exact h1
  by_cases hg : r.1 = 1099511627776
  ·refine ⟨0, 2, Ev.congr (fun k => ?_) (Ev.bind (g := fun k => spec_CronNumber.f k s) (f := fun k bt165 => (if bt165.2 = 0 then (spec_CronStep.j0 k bt165.1 bt165.2 true) else (spec_CronStep.j0 k bt165.1 bt165.2 (bt165.1 == 0)))) hr (Ev.congr (f := fun k => spec_CronStep.j0 k r.1 r.2 false) (fun k => ?_) (Ev.step (f := fun _ => some (0, 2)) (fun k => ?_) (Ev.now _)))), by decide, fun h => by cases h⟩
   ·rfl
   ·rw [if_neg h2, hb]
   ·simp only [spec_CronStep.j0]; simp [hg]
  ·refine ⟨r.1, r.2, Ev.congr (fun k => ?_) (Ev.bind (g := fun k => spec_CronNumber.f k s) (f := fun k bt165 => (if bt165.2 = 0 then (spec_CronStep.j0 k bt165.1 bt165.2 true) else (spec_CronStep.j0 k bt165.1 bt165.2 (bt165.1 == 0)))) hr (Ev.congr (f := fun k => spec_CronStep.j0 k r.1 r.2 false) (fun k => ?_) (Ev.step (f := fun _ => some (r.1, r.2)) (fun k => ?_) (Ev.now _)))), h0, fun h1' => ?_⟩
   ·rfl
   ·rw [if_neg h2, hb]
   ·simp only [spec_CronStep.j0]; simp [hg]
   ·obtain ⟨hd, hv⟩ := hq h1'
    refine ⟨hd, ?_, ?_, ?_⟩ <;> omega
def unitL (u : Txt) : Nat × Nat :=
 if u = [110, 115] then (1, 0) else if u = [117, 115] then (1000, 3) else if u = [194, 181, 115] then (1000, 3) else if u = [206, 188, 115] then (1000, 3)
 else if u = [109, 115] then (1000000, 6) else if u = [115] then (1000000000, 9) else if u = [109] then (60000000000, 10) else if u = [104] then (3600000000000, 11) else (0, 0)
def stopU (c : UInt8) : Bool := dig c || c.toNat == 46
def inU (c : UInt8) : Bool := !stopU c
def fracD : Txt → Txt
 | [] => []
 | c :: t => if c.toNat = 46 then t.takeWhile dig else []
def aftF : Txt → Txt
 | [] => []
 | c :: t => if c.toNat = 46 then t.dropWhile dig else c :: t
def TermR (l : Txt) (n : Nat) (rest : Txt) : Prop :=
 ∃ ds fs u : Txt, ds = l.takeWhile dig ∧ fs = fracD (l.dropWhile dig) ∧ u = (aftF (l.dropWhile dig)).takeWhile inU ∧ rest = (aftF (l.dropWhile dig)).dropWhile inU ∧
  ds.length ≤ 15 ∧ (ds ≠ [] ∨ fs ≠ []) ∧ fs.length ≤ (unitL u).2 ∧ 0 < (unitL u).1 ∧ val ds + 1 ≤ 4611686018427387904 / (unitL u).1 ∧ n = val ds * (unitL u).1 + val fs * ((unitL u).1 / 10 ^ fs.length)
def SumR : Nat → Txt → Nat → Prop
 | 0, l, s => l = [] ∧ s = 0
 | k + 1, l, s => (l = [] ∧ s = 0) ∨ (l ≠ [] ∧ ∃ n rest m, TermR l n rest ∧ SumR k rest m ∧ s = n + m)
def DurR (l : Txt) (d : Int) : Prop :=
 ∃ (neg : Bool) (t : Txt), ((l = 45 :: t ∧ neg = true) ∨ (l = 43 :: t ∧ neg = false) ∨ (l = t ∧ neg = false ∧ l.head? ≠ some 45 ∧ l.head? ≠ some 43)) ∧
  ((t = [48] ∧ d = 0) ∨ (t ≠ [48] ∧ t ≠ [] ∧ ∃ k s, SumR k t s ∧ s ≤ 4611686018427387904 ∧ d = if neg then -(s : Int) else (s : Int)))
theorem val_snoc (l : Txt) (c : UInt8) : val (l ++ [c]) = 10 * val l + (c.toNat - 48) := by unfold val; rw [List.foldl_append]; rfl
theorem dig_rng {c : UInt8} (h : dig c = true) : 48 ≤ c.toNat ∧ c.toNat ≤ 57 := by unfold dig at h; simpa using h
theorem val_lt (l : Txt) (h : ∀ c ∈ l, dig c = true) : val l < 10 ^ l.length := by
 suffices key : ∀ (l : Txt) (n k : Nat), (∀ c ∈ l, dig c = true) → n < 10 ^ k → l.foldl dval n < 10 ^ (k + l.length) by
  have := key l 0 0 h (by decide); rwa [Nat.zero_add] at this
 intro l
 induction l with
 | nil => intro n k _ h; exact h
 | cons c l ih =>
  intro n k h hn
  rw [List.foldl_cons, show k + (c :: l).length = (k + 1) + l.length by simp; omega]
  refine ih _ _ (fun x hx => h x (List.mem_cons_of_mem _ hx)) ?_
  have := dig_rng (h c (List.mem_cons_self ..))
  unfold dval
  rw [Nat.pow_succ]
  omega
theorem at_drop {s : ByteArray} {i : Nat} {c : UInt8} {t : Txt} (h : (toL s).drop i = c :: t) :
  i < s.size ∧ bt s (i : Int) = (c.toNat : Int) ∧ (toL s).drop (i + 1) = t ∧ (toL s).take (i + 1) = (toL s).take i ++ [c] := by
 have hlt : i < s.size := by
  rcases Nat.lt_or_ge i s.size with h1 | h1
  ·exact h1
  ·rw [List.drop_eq_nil_of_le (by rw [toL_len]; exact h1)] at h; cases h
 have hl' : i < (toL s).length := by rw [toL_len]; exact hlt
 rw [List.drop_eq_getElem_cons hl'] at h
 injection h with h1 h2
 exact ⟨hlt, by rw [bt_nat s i hlt, h1], h2, by rw [List.take_succ_eq_append_getElem hl', h1]⟩
theorem drop_nil {s : ByteArray} {i : Nat} (h : (toL s).drop i = []) : s.size ≤ i := by
 rw [List.drop_eq_nil_iff, toL_len] at h; exact h
theorem unit_f (s : ByteArray) : Ev (fun k => spec_cronUnit.f k s) (((unitL (toL s)).1 : Int), ((unitL (toL s)).2 : Int)) := by
 have hj : ∀ b : Bool, Ev (fun k => spec_cronUnit.j0 k s b) (if b = true then ((1000, 3) : Int × Int) else if toL s = [109, 115] then (1000000, 6) else if toL s = [115] then (1000000000, 9) else if toL s = [109] then (60000000000, 10) else if toL s = [104] then (3600000000000, 11) else (0, 0)) := fun b => by
  refine Ev.step (f := fun _ => some (if b = true then ((1000, 3) : Int × Int) else if toL s = [109, 115] then (1000000, 6) else if toL s = [115] then (1000000000, 9) else if toL s = [109] then (60000000000, 10) else if toL s = [104] then (3600000000000, 11) else (0, 0))) (fun k => ?_) (Ev.now _)
  simp only [spec_cronUnit.j0, toList_toL, apply_ite some]
 unfold unitL
 by_cases h1 : toL s = [110, 115]
 ·rw [if_pos h1]
  refine Ev.congr (f := fun _ => some (1, 0)) (fun k => ?_) (Ev.now _)
  unfold spec_cronUnit.f; rw [toList_toL, if_pos h1]
 rw [if_neg h1]
 by_cases h2 : toL s = [117, 115]
 ·rw [if_pos h2]
  refine Ev.congr (fun k => ?_) (hj true)
  unfold spec_cronUnit.f; rw [toList_toL, if_neg h1, if_pos h2, h2]; rfl
 rw [if_neg h2]
 by_cases h3 : toL s = [194, 181, 115]
 ·rw [if_pos h3]
  refine Ev.congr (fun k => ?_) (hj true)
  unfold spec_cronUnit.f; rw [toList_toL, if_neg h1, if_neg h2, if_pos h3, h3]; rfl
 rw [if_neg h3]
 by_cases h4 : toL s = [206, 188, 115]
 ·rw [if_pos h4]
  refine Ev.congr (fun k => ?_) (hj true)
  unfold spec_cronUnit.f; rw [toList_toL, if_neg h1, if_neg h2, if_neg h3, h4]; rfl
 rw [if_neg h4]
 have h4' : (toL s == [206, 188, 115]) = false := by simpa using h4
 have := hj false
 rw [if_neg (by decide)] at this
 refine Ev.congr (f := fun k => spec_cronUnit.j0 k s false) (fun k => ?_) ?_
 ·unfold spec_cronUnit.f; rw [toList_toL, if_neg h1, if_neg h2, if_neg h3, h4']
 ·by_cases a1 : toL s = [109, 115]
  ·rw [if_pos a1] at this ⊢; exact this
  rw [if_neg a1] at this ⊢
  by_cases a2 : toL s = [115]
  ·rw [if_pos a2] at this ⊢; exact this
  rw [if_neg a2] at this ⊢
  by_cases a3 : toL s = [109]
  ·rw [if_pos a3] at this ⊢; exact this
  rw [if_neg a3] at this ⊢
  by_cases a4 : toL s = [104]
  ·rw [if_pos a4] at this ⊢; exact this
  rw [if_neg a4] at this ⊢
  exact this
end Go.Proofs.YtcjdideliifkhaaGreatDoor
