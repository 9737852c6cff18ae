import Derived.Test.YtcjdideliifkhaaGreatDoorB32
set_option maxRecDepth 100000
set_option maxHeartbeats 16000000
namespace Go.Proofs.YtcjdideliifkhaaGreatDoor
open Go.RowKit Go.Proofs.YtcjdideliifkhaaGreatDoorW.PrintWords Go.Proofs.YtcjdideliifkhaaGreatDoorW.PrintLast Go.Proofs.YtcjdideliifkhaaGreatDoorW.PrintMore PFnCronTextAfterAnywhere
set_option linter.unusedVariables false
set_option linter.unusedSimpArgs false
def FzL (s : ByteArray) (w : World) (v3 v4 : Value) (wr : World) : Prop :=
 ∃ (v : Value) (pos : Nat) (fr : Option Nat) (acc : List Txt), v = v3 ∧ v4 = .int .i64 (frI fr) ∧ pos ≤ s.size ∧ (∀ a, fr = some a → a < pos) ∧ acc.length ≤ pos ∧ RowB w wr 9 v ((acc.map ofL).map Value.string) ∧ ItAt wr w.heap.size s pos ∧
  wordsL none (toL s) = acc ++ wordsL (fr.map fun a => sliceT s a pos) ((toL s).drop pos)
theorem space_c (c : UInt8) (h : c.toNat < 128) (w : World) : Calls Tryz.prog 88 #[.int .i32 (c.toNat : Int)] w fun e w' => e = .returned (.bool (blank c)) ∧ Below w.heap.size w w' := by
 have hb : blank c = (decide (c.toNat = 9) || decide (c.toNat = 10) || decide (c.toNat = 11) || decide (c.toNat = 12) || decide (c.toNat = 13) || decide (c.toNat = 32)) := by
  rw [Bool.eq_iff_iff]; unfold blank; simp; omega
 rw [hb]
 generalize c.toNat = n at *
 clear hb
 by_cases h1 : n = 9 ∨ n = 10 ∨ n = 11 ∨ n = 12 ∨ n = 13 ∨ n = 32
 ·rcases h1 with rfl | rfl | rfl | rfl | rfl | rfl
  all_goals
   go_enter Tryz.func88, Tryz.ntmps88
   go_wp2
   go_ret
   exact ⟨rfl, Below.refl _ _⟩
 ·have e : ∀ k : Int, k = 9 ∨ k = 10 ∨ k = 11 ∨ k = 12 ∨ k = 13 ∨ k = 32 ∨ 127 < k → ((n : Int) == k) = false := fun k hk => by simp; omega
  have e1 := e 9 (by omega)
  have e2 := e 10 (by omega)
  have e3 := e 11 (by omega)
  have e4 := e 12 (by omega)
  have e5 := e 13 (by omega)
  have e6 := e 32 (by omega)
  have f := fun k hk => e k (.inr (.inr (.inr (.inr (.inr (.inr hk))))))
  have hf : (decide (n = 9) || decide (n = 10) || decide (n = 11) || decide (n = 12) || decide (n = 13) || decide (n = 32)) = false := by simp; omega
  rw [hf]
  go_enter Tryz.func88, Tryz.ntmps88
  go_wp2
  go_ret
  exact ⟨rfl, Below.refl _ _⟩
theorem fieldsZ_c (s : ByteArray) (hs : s.size ≤ 4294967295) (ha : foreign (toL s) = false) (w : World) :
  Calls Tryz.prog 55 #[.string s] w fun e w' => ∃ v, e = .returned v ∧ RowB w w' 9 v (((wordsL none (toL s)).map ofL).map Value.string) := by
 go_enter Tryz.func55, Tryz.ntmps55
 go_wp2
 have hst := Lib.hid (show FzL s w (.slice none 0 0) (.int .i64 (-1)) (w.iter s 0) from ⟨_, 0, none, [], rfl, rfl, Nat.zero_le _, (fun a h => by cases h), Nat.le_refl _, RowB.nil _ _ _ (below_alloc (Below.refl _ _) _), World.iter_heap w s 0, rfl⟩)
 go_loopw [3, 4] (fun v3 v4 wr => FzL s w v3 v4 wr) (fun _ _ wr => s.size - wr.iterPos w.heap.size)
 case atStart => exact hst.out
 case round =>
  obtain ⟨v, pos, fr, acc, rfl, rfl, hp, hfr, hacc, hR, hit, hW⟩ := hrel
  clear hst
  by_cases hlt : pos < s.size
  ·have hc := foreign_at ha pos hlt
   have hnx : ∀ ty, (Instr.next (.pointer (some ⟨w.heap.size, 0, none⟩)) true ty).run Tryz.prog wr = _ := fun ty => Lib.run_next_ascii_at wr w.heap.size s pos ty hit hlt hc
   have hR2 := hR.moved hit (Nat.le_refl _) (pos + 1)
   have hit2 := ItAt.moved hit (pos + 1)
   have hdr := byte_at s pos hlt
   rw [hdr] at hW
   have hmes := Lib.hid (show ∀ w' : World, ItAt w' w.heap.size s (pos + 1) → s.size - w'.iterPos w.heap.size < s.size - wr.iterPos w.heap.size from fun w' h => by
    have h1 : w'.iterPos w.heap.size = pos + 1 := by unfold World.iterPos; rw [h]
    have h2 : wr.iterPos w.heap.size = pos := by unfold World.iterPos; rw [hit]
    rw [h1, h2]; omega)
   have hone := sliceT_one s pos hlt
   have hsn := fun a (h : a ≤ pos) => sliceT_snoc s a pos hlt h
   have HR2 := Lib.hid hR2
   have HI2 := Lib.hid hit2
   have HW := Lib.hid hW
   have HONE := Lib.hid hone
   have HSN := Lib.hid hsn
   clear hR2 hit2 hR hit hdr hW hone hsn
   generalize wr.iterAt w.heap.size s (pos + 1) = W at *
   have HSP := Lib.hid (space_c s[pos] hc)
   generalize s[pos] = c at *
   cases hb : blank c with
   | true =>
    rw [hb] at HSP
    cases fr with
    | none =>
     rw [show frI none = -1 from rfl]
     have HN := Lib.hid (show ∀ w', Below W.heap.size W w' → FzL s w v (.int .i64 (-1)) w' from fun w' h => ⟨v, pos + 1, none, acc, rfl, rfl, hlt, (fun a h => by cases h), by omega, HR2.out.below' h, HI2.out.below h, HW.out.trans (by simp only [Option.map_none]; rw [words_blank_none _ _ hb])⟩)
     clear hb hfr
     go_wp2_with (go_at_call 88; refine (HSP.out _).mono ?_; rintro e w2 ⟨rfl, hb2⟩; have HB2 := Lib.hid hb2; clear hb2)
     exact ⟨HN.out _ HB2.out, hmes.out _ (HI2.out.below HB2.out)⟩
    | some a =>
     rw [show frI (some a) = (a : Int) from rfl]
     have hap := hfr a rfl
     have hext : s.extract a pos = ofL (sliceT s a pos) := extract_ofL s a pos
     have HE := Lib.hid hext
     have HN := Lib.hid (show ∀ v' w', RowB w w' 9 v' ((acc.map ofL).map Value.string ++ [.string (ofL (sliceT s a pos))]) → ItAt w' w.heap.size s (pos + 1) → FzL s w v' (.int .i64 (-1)) w' from fun v' w' h1 h2 => ⟨v', pos + 1, none, acc ++ [sliceT s a pos], rfl, rfl, hlt, (fun a h => by cases h), by simp; omega, by simpa using h1, h2, HW.out.trans (by simp only [Option.map_some, Option.map_none]; rw [words_blank_some _ _ _ hb]; simp)⟩)
     have hlen : ((acc.map ofL).map Value.string).length ≤ 4294967296 := by simp; omega
     clear hb hfr hext
     go_wp2_with (first
      | (go_at_call 88; refine (HSP.out _).mono ?_; rintro e w2 ⟨rfl, hb2⟩; have HR3 := Lib.hid (HR2.out.below' hb2); have HI3 := Lib.hid (HI2.out.below hb2); clear hb2)
      | (refine wpList_app1 elem9 (HR3.out.alloc (.cells #[.string (s.extract a pos)] 9)) rfl _ _ rfl rfl w2.heap.size 1 (.string (s.extract a pos)) rfl (blk_cell (blk_new _ _) 0) rfl hlen ?_; intro v' w' h1 h2 h3))
     rw [HE.out] at h1
     exact ⟨HN.out v' w' h1 (h2 _ _ _ (HI3.out.alloc _)), hmes.out _ (h2 _ _ _ (HI3.out.alloc _))⟩
   | false =>
    rw [hb] at HSP
    cases fr with
    | none =>
     rw [show frI none = -1 from rfl]
     have HN := Lib.hid (show ∀ w', Below W.heap.size W w' → FzL s w v (.int .i64 (pos : Int)) w' from fun w' h => ⟨v, pos + 1, some pos, acc, rfl, rfl, hlt, (fun a h => by cases h; omega), by omega, HR2.out.below' h, HI2.out.below h, HW.out.trans (by simp only [Option.map_none, Option.map_some]; rw [words_char_none _ _ hb, HONE.out])⟩)
     clear hb hfr
     go_wp2_with (go_at_call 88; refine (HSP.out _).mono ?_; rintro e w2 ⟨rfl, hb2⟩; have HB2 := Lib.hid hb2; clear hb2)
     exact ⟨HN.out _ HB2.out, hmes.out _ (HI2.out.below HB2.out)⟩
    | some a =>
     rw [show frI (some a) = (a : Int) from rfl]
     have hap := hfr a rfl
     have HN := Lib.hid (show ∀ w', Below W.heap.size W w' → FzL s w v (.int .i64 (a : Int)) w' from fun w' h => ⟨v, pos + 1, some a, acc, rfl, rfl, hlt, (fun a h => by cases h; omega), by omega, HR2.out.below' h, HI2.out.below h, HW.out.trans (by simp only [Option.map_some]; rw [words_char_some _ _ _ hb, HSN.out a (by omega)])⟩)
     clear hb hfr
     go_wp2_with (go_at_call 88; refine (HSP.out _).mono ?_; rintro e w2 ⟨rfl, hb2⟩; have HB2 := Lib.hid hb2; clear hb2)
     exact ⟨HN.out _ HB2.out, hmes.out _ (HI2.out.below HB2.out)⟩
  ·have hps : pos = s.size := by omega
   subst hps
   have hnx : ∀ ty, (Instr.next (.pointer (some ⟨w.heap.size, 0, none⟩)) true ty).run Tryz.prog wr = _ := fun ty => Lib.run_next_end_at wr w.heap.size s s.size ty hit hlt
   rw [List.drop_eq_nil_of_le (by rw [toL_len]; exact Nat.le_refl _)] at hW
   have HR := Lib.hid hR
   have hlen : ((acc.map ofL).map Value.string).length ≤ 4294967296 := by simp; omega
   cases fr with
   | none =>
    rw [show frI none = -1 from rfl]
    have HW := Lib.hid (hW.trans (by simp [wordsL]) : wordsL none (toL s) = acc)
    clear hW hR hit hfr
    go_wp2
    go_ret
    exact ⟨v, rfl, by rw [HW.out]; exact HR.out⟩
   | some a =>
    rw [show frI (some a) = (a : Int) from rfl]
    have hap := hfr a rfl
    have HW := Lib.hid (hW.trans (by simp [wordsL]) : wordsL none (toL s) = acc ++ [sliceT s a s.size])
    have HE := Lib.hid (show s.extract a s.size = ofL (sliceT s a s.size) from extract_ofL s a s.size)
    clear hW hR hit hfr
    go_wp2_with (refine wpList_app1 elem9 (HR.out.alloc (.cells #[.string (s.extract a s.size)] 9)) rfl _ _ rfl rfl wr.heap.size 1 (.string (s.extract a s.size)) rfl (blk_cell (blk_new _ _) 0) rfl hlen ?_; intro v' w' h1 h2 h3)
    go_ret
    rw [HE.out] at h1
    exact ⟨v', rfl, by rw [HW.out]; simpa using h1⟩
def Mid (l bl mid br : Txt) : Prop := l = bl ++ mid ++ br ∧ (∀ c ∈ bl, blank c = true) ∧ (∀ c ∈ br, blank c = true) ∧ (∃ x xs, mid = x :: xs ∧ blank x = false) ∧ (∃ xs x, mid = xs ++ [x] ∧ blank x = false)
theorem dropB (bl l : Txt) (h : ∀ c ∈ bl, blank c = true) : (bl ++ l).dropWhile blank = l.dropWhile blank := by
 induction bl with
 | nil => rfl
 | cons c bl ih => rw [List.cons_append, List.dropWhile_cons_of_pos (h c (List.mem_cons_self ..)), ih (fun x hx => h x (List.mem_cons_of_mem _ hx))]
theorem trim_mid {l bl mid br : Txt} (h : Mid l bl mid br) : trimL l = mid := by
 obtain ⟨rfl, h1, h2, ⟨x, xs, h3, h4⟩, ⟨ys, y, h5, h6⟩⟩ := h
 unfold trimL trimR
 rw [List.append_assoc, dropB bl _ h1]
 have : (mid ++ br).dropWhile blank = mid ++ br := by rw [h3, List.cons_append, List.dropWhile_cons_of_neg (by rw [h4]; decide)]
 rw [this, List.reverse_append, dropB br.reverse _ (fun c hc => h2 c (List.mem_reverse.1 hc)), h5, List.reverse_append, List.reverse_singleton, List.singleton_append, List.dropWhile_cons_of_neg (by rw [h6]; decide)]
 simp
theorem trim_blank {l : Txt} (h : ∀ c ∈ l, blank c = true) : trimL l = [] := by
 have := dropB l [] h
 rw [List.append_nil] at this
 unfold trimL; rw [this]; rfl
def TzI (l : Txt) (fr tt : Int) : Prop := ((∀ c ∈ l, blank c = true) ∧ fr = -1 ∧ tt = 0) ∨ (∃ bl mid br, Mid l bl mid br ∧ fr = bl.length ∧ tt = ((bl.length + mid.length : Nat) : Int))
theorem TzI.bl {l : Txt} {fr tt : Int} (h : TzI l fr tt) (c : UInt8) (hc : blank c = true) : TzI (l ++ [c]) fr tt := by
 rcases h with ⟨h1, h2, h3⟩ | ⟨bl, mid, br, ⟨rfl, h1, h2, h3, h4⟩, h5, h6⟩
 ·exact .inl ⟨fun x hx => by
   rcases List.mem_append.1 hx with hx | hx
   ·exact h1 x hx
   ·rw [List.mem_singleton] at hx; rw [hx]; exact hc, h2, h3⟩
 ·exact .inr ⟨bl, mid, br ++ [c], ⟨by simp, h1, fun x hx => by
   rcases List.mem_append.1 hx with hx | hx
   ·exact h2 x hx
   ·rw [List.mem_singleton] at hx; rw [hx]; exact hc, h3, h4⟩, h5, h6⟩
theorem TzI.first {l : Txt} {fr tt : Int} (h : TzI l fr tt) (hf : fr < 0) (c : UInt8) (hc : blank c = false) : TzI (l ++ [c]) (l.length : Int) ((l.length + 1 : Nat) : Int) := by
 rcases h with ⟨h1, h2, h3⟩ | ⟨bl, mid, br, _, h5, _⟩
 ·exact .inr ⟨l, [c], [], ⟨by simp, h1, fun x hx => by simp at hx, ⟨c, [], rfl, hc⟩, ⟨[], c, rfl, hc⟩⟩, rfl, rfl⟩
 ·omega
theorem TzI.more {l : Txt} {fr tt : Int} (h : TzI l fr tt) (hf : ¬ fr < 0) (c : UInt8) (hc : blank c = false) : TzI (l ++ [c]) fr ((l.length + 1 : Nat) : Int) := by
 rcases h with ⟨h1, h2, h3⟩ | ⟨bl, mid, br, ⟨rfl, h1, h2, ⟨x, xs, h3, h4⟩, h7⟩, h5, h6⟩
 ·omega
 ·exact .inr ⟨bl, mid ++ br ++ [c], [], ⟨by simp, h1, fun x hx => by simp at hx, ⟨x, xs ++ br ++ [c], by rw [h3]; simp, h4⟩, ⟨mid ++ br, c, rfl, hc⟩⟩, h5, by simp; omega⟩
theorem trimZ_c (s : ByteArray) (hs : s.size ≤ 4294967295) (ha : foreign (toL s) = false) (w : World) :
  Calls Tryz.prog 53 #[.string s] w fun e w' => e = .returned (.string (ofL (trimL (toL s)))) ∧ Below w.heap.size w w' := by
 go_enter Tryz.func53, Tryz.ntmps53
 go_wp2
 go_loopw [3, 4, 5] (fun v3 v4 v5 wr => ∃ (fr tt : Int) (i : Nat), v3 = .int .i64 fr ∧ v4 = .int .i64 tt ∧ v5 = .int .i64 (i : Int) ∧ i ≤ s.size ∧ TzI ((toL s).take i) fr tt ∧ Below w.heap.size w wr) (fun _ _ v5 _ => s.size - (intOf v5).toNat)
 case atStart => exact ⟨-1, 0, 0, rfl, rfl, rfl, Nat.zero_le _, .inl ⟨fun c hc => by simp at hc, rfl, rfl⟩, Below.refl _ _⟩
 case round =>
  obtain ⟨fr, tt, i, rfl, rfl, rfl, hi, hT, hB⟩ := hrel
  have HB := Lib.hid hB
  clear hB
  by_cases hlt : i < s.size
  ·have hc := foreign_at ha i hlt
   have htk := take_at s i hlt
   have hlen : ((toL s).take i).length = i := by rw [List.length_take, toL_len]; omega
   have h0 : (s.extract i s.size).data.toList[0]? = some s[i] := by
    have h1 : (s.extract i s.size).data.toList = (toL s).drop i := by
     have := extract_ofL s i s.size
     rw [List.take_of_length_le (by rw [toL_len]; exact Nat.le_refl _)] at this
     rw [this]; rfl
    rw [h1, byte_at s i hlt]; rfl
   have HD := Lib.hid (fun w => Tryz.utf8_DecodeRuneInString_ascii (s.extract i s.size) s[i] w h0 hc)
   have HSP := Lib.hid (space_c s[i] hc)
   have HT1 := Lib.hid (fun (hb : blank s[i] = true) => (show TzI ((toL s).take (i + 1)) fr tt by rw [htk]; exact hT.bl _ hb))
   have HT2 := Lib.hid (fun (hb : blank s[i] = false) (hf : fr < 0) => (show TzI ((toL s).take (i + 1)) (i : Int) ((i : Int) + 1) by rw [htk]; have := hT.first hf s[i] hb; rw [hlen] at this; simpa using this))
   have HT3 := Lib.hid (fun (hb : blank s[i] = false) (hf : ¬ fr < 0) => (show TzI ((toL s).take (i + 1)) fr ((i : Int) + 1) by rw [htk]; have := hT.more hf s[i] hb; rw [hlen] at this; simpa using this))
   clear h0 htk hlen hT
   generalize s[i] = c at *
   cases hb : blank c with
   | true =>
    rw [hb] at HSP
    have HX := Lib.hid (HT1.out hb)
    clear hb HT1 HT2 HT3
    go_wp2_with (first
     | (go_at_call 87; refine (HD.out _).mono ?_; rintro e w2 ⟨rfl, rfl⟩)
     | (go_at_call 88; refine (HSP.out _).mono ?_; rintro e w3 ⟨rfl, hb3⟩; have HB3 := Lib.hid (below_step HB.out hb3); clear hb3))
    exact ⟨⟨fr, tt, i + 1, rfl, rfl, by simp, by omega, HX.out, HB3.out⟩, by simp [intOf]; omega⟩
   | false =>
    rw [hb] at HSP
    by_cases hf : fr < 0
    ·have HX := Lib.hid (HT2.out hb hf)
     clear hb HT1 HT2 HT3
     go_wp2_with (first
      | (go_at_call 87; refine (HD.out _).mono ?_; rintro e w2 ⟨rfl, rfl⟩)
      | (go_at_call 88; refine (HSP.out _).mono ?_; rintro e w3 ⟨rfl, hb3⟩; have HB3 := Lib.hid (below_step HB.out hb3); clear hb3))
     exact ⟨⟨(i : Int), (i : Int) + 1, i + 1, rfl, rfl, by simp, by omega, HX.out, HB3.out⟩, by simp [intOf]; omega⟩
    ·have HX := Lib.hid (HT3.out hb hf)
     clear hb HT1 HT2 HT3
     go_wp2_with (first
      | (go_at_call 87; refine (HD.out _).mono ?_; rintro e w2 ⟨rfl, rfl⟩)
      | (go_at_call 88; refine (HSP.out _).mono ?_; rintro e w3 ⟨rfl, hb3⟩; have HB3 := Lib.hid (below_step HB.out hb3); clear hb3))
     exact ⟨⟨fr, (i : Int) + 1, i + 1, rfl, rfl, by simp, by omega, HX.out, HB3.out⟩, by simp [intOf]; omega⟩
  ·have his : i = s.size := by omega
   subst his
   rw [List.take_of_length_le (by rw [toL_len]; exact Nat.le_refl _)] at hT
   rcases hT with ⟨h1, rfl, rfl⟩ | ⟨bl, mid, br, hM, rfl, rfl⟩
   ·have HX := Lib.hid (trim_blank h1)
    clear h1
    go_wp2
    go_ret
    exact ⟨by rw [HX.out]; rfl, HB.out⟩
   ·have HX := Lib.hid (trim_mid hM)
    have hle : bl.length + mid.length ≤ s.size := by
     have := congrArg List.length hM.1
     rw [toL_len] at this
     simp at this; omega
    have hex : s.extract bl.length (bl.length + mid.length) = ofL mid := by
     rw [extract_ofL, hM.1, ← List.length_append, List.take_left, List.drop_left]
    have HE := Lib.hid hex
    clear hM hex
    generalize bl.length = b1 at *
    generalize mid.length = m1 at *
    go_wp2
    go_ret
    exact ⟨by rw [HX.out, ← HE.out]; rfl, HB.out⟩
def LocOk (w : World) (loc : Option Addr) (utc : Bool) : Prop := (utc = true ∧ ∃ u, loc = some ⟨u, 0, none⟩ ∧ IsUTC w u) ∨ (utc = false ∧ loc = none)
theorem LocOk.below {w w' : World} {loc : Option Addr} {utc : Bool} (h : LocOk w loc utc) (hb : Below w.heap.size w w') : LocOk w' loc utc := by
 rcases h with ⟨h1, u, h2, h3⟩ | h
 ·exact .inl ⟨h1, u, h2, h3.below hb⟩
 ·exact .inr h
theorem load_c (name : Txt) (utc : Bool) (h : ZoneR name utc) (w : World) :
  Calls Tryz.prog 52 #[.string (ofL name)] w fun e w' => (∃ loc, e = .returned (.tuple #[.pointer loc, .nilIface]) ∧ LocOk w' loc utc) ∧ Below w.heap.size w w' := by
 rcases h with ⟨h | h, rfl⟩ | ⟨h, rfl⟩
 ·subst h
  have h1 : ((ofL []).toList == ([] : List UInt8)) = true := by rw [toList_toL]; rfl
  go_enter Tryz.func52, Tryz.ntmps52
  go_wp2_with (go_at_call 39; refine (utc_c _).mono ?_; rintro e w2 ⟨rfl, hu, hb⟩; have HU := Lib.hid hu; have HB := Lib.hid hb; clear hu hb)
  go_ret2
  exact ⟨⟨_, rfl, .inl ⟨rfl, _, rfl, HU.out⟩⟩, HB.out⟩
 ·subst h
  have h1 : ((ofL [85, 84, 67]).toList == ([] : List UInt8)) = false := by rw [toList_toL]; rfl
  have h2 : ((ofL [85, 84, 67]).toList == ([85, 84, 67] : List UInt8)) = true := by rw [toList_toL]; rfl
  go_enter Tryz.func52, Tryz.ntmps52
  go_wp2_with (go_at_call 39; refine (utc_c _).mono ?_; rintro e w2 ⟨rfl, hu, hb⟩; have HU := Lib.hid hu; have HB := Lib.hid hb; clear hu hb)
  go_ret2
  exact ⟨⟨_, rfl, .inl ⟨rfl, _, rfl, HU.out⟩⟩, HB.out⟩
 ·subst h
  have h1 : ((ofL [76, 111, 99, 97, 108]).toList == ([] : List UInt8)) = false := by rw [toList_toL]; rfl
  have h2 : ((ofL [76, 111, 99, 97, 108]).toList == ([85, 84, 67] : List UInt8)) = false := by rw [toList_toL]; rfl
  have h3 : ((ofL [76, 111, 99, 97, 108]).toList == ([76, 111, 99, 97, 108] : List UInt8)) = true := by rw [toList_toL]; rfl
  go_enter Tryz.func52, Tryz.ntmps52
  go_wp2
  go_ret2
  exact ⟨⟨_, rfl, .inr ⟨rfl, rfl⟩⟩, Below.refl _ _⟩
theorem below_same {w w' : World} {b : Nat} {v : Value} {t : TypeId} (h : w'.heap[b]? = some (.cells #[v] t (0, 0))) (B : Nat) (hb : Below B w w') : Below B w (w'.setCell ⟨b, 0, none⟩ v) := by
 have hs : (w'.setCell ⟨b, 0, none⟩ v).heap[b]? = some (.cells #[v] t (0, 0)) := blk_put h 0 v (by simp)
 refine ⟨?_, ?_, ?_, ?_, fun k hk => ?_⟩
 ·simpa [World.setCell] using hb.os
 ·simpa [World.setCell] using hb.tape
 ·simpa [World.setCell] using hb.output
 ·simpa [World.setCell] using hb.size
 ·by_cases e : k = b
  ·subst e; rw [hs, ← hb.block k hk, h]
  ·rw [Below.heap_setCell w' _ v k (by show k ≠ b; exact e)]; exact hb.block k hk
theorem clos_c (kind : Int) (hk0 : 0 ≤ kind) (hk1 : kind ≤ 5) (s : ByteArray) (hs : s.size ≤ 4294960000) (ha : foreign (toL s) = false) (t : CSet) (ht : FieldR kind (toL s) t) (v : Value) (w : World) (hv : BndAt kind w v) (be : Nat) (herr : w.heap[be]? = some (.cells #[.nilIface] 84 (0, 0))) :
  Calls Tryz.prog 57 #[.string s, v, .pointer (some ⟨be, 0, none⟩)] w fun e w' => (∃ N : Nat, e = .returned (.int .u64 (N : Int)) ∧ BitsOf N t) ∧ Below w.heap.size w w' := by
 obtain ⟨m, rfl, hnm⟩ := hv.names
 clear hv
 have hbl := blk_lt herr
 have hb1 : Below w.heap.size w (w.alloc (.cells #[.int .u64 (low kind), .int .u64 (high kind), .map m] 121)) := below_alloc (Below.refl _ _) _
 have HE := Lib.hid herr
 have HG := Lib.hid (fun w' (h : NamesAt kind w' m) => getField_c kind hk0 hk1 s hs ha t ht _ w' h.bnd)
 have HN := Lib.hid (hnm.below hb1)
 have HB1 := Lib.hid hb1
 have ce : w.cell? ⟨be, 0, none⟩ = some .nilIface := blk_cell herr 0
 have hu121 := Tryz.underlying121
 clear herr hnm hb1
 go_enter Tryz.func57, Tryz.ntmps57
 go_wp2_with (go_at_call 58; refine (HG.out _ HN.out).mono ?_; rintro e w3 ⟨⟨N, rfl, hN⟩, hb3⟩; have HB3 := Lib.hid (below_step HB1.out hb3); have hbe3 := blk_below (blk_below HE.out HB1.out) hb3; have HBE := Lib.hid hbe3; have ce3 : w3.cell? ⟨be, 0, none⟩ = some .nilIface := blk_cell hbe3 0; have hf3 : w3.frozen? ⟨be, 0, none⟩ = false := blk_frozen hbe3 0; have HN' := Lib.hid hN; clear hb3 hbe3 hN)
 go_ret
 exact ⟨⟨N, rfl, HN'.out⟩, below_same HBE.out _ HB3.out⟩
theorem one_piece {c : UInt8} {x : UInt8} (h : x ≠ c) : pieces c [] [x] = [[x]] := by
 unfold pieces; rw [if_neg h]; rfl
theorem union_zero_star (t : CSet) : (CSet.zero.union t).star = t.star := by simp [CSet.union, CSet.zero]
theorem union_zero_has (t : CSet) (i : Nat) : (CSet.zero.union t).has i = t.has i := by simp [CSet.union, CSet.zero]
theorem field_one {kind : Int} {x : UInt8} (h44 : x ≠ 44) (h47 : x ≠ 47) {t : CSet} (h : FieldR kind [x] t) :
  ∃ (lo hi : Int) (star single : Bool), EndsR kind [x] lo hi star single ∧ low kind ≤ lo ∧ hi ≤ high kind ∧ lo ≤ hi ∧ t.star = star ∧ ∀ i : Nat, i < 63 → t.has i = decide (lo ≤ i ∧ (i : Int) ≤ hi) := by
 unfold FieldR at h
 rw [one_piece h44] at h
 obtain ⟨_, one, ⟨lo, hi, star, single, step, hi', h1, h2, h3, h4, h5, h6⟩, ht⟩ := h
 have ht : t = CSet.zero.union one := ht
 subst ht
 rcases h1 with ⟨p, hp, he, hs, hh⟩ | ⟨p, q, hp, _⟩
 ·rw [one_piece h47] at hp
  injection hp with hp _
  subst hp hs hh
  refine ⟨lo, hi', star, single, he, h2, h3, h4, ?_, fun i hi => ?_⟩
  ·rw [union_zero_star, h5]; simp
  ·rw [union_zero_has, h6 i hi, decide_eq_decide]
   simp [Int.emod_one]
 ·rw [one_piece h47] at hp
  cases hp
theorem star_field {kind : Int} {t : CSet} (h : FieldR kind [42] t) : t.star = true ∧ ∀ i : Nat, i < 63 → t.has i = decide (low kind ≤ i ∧ (i : Int) ≤ high kind) := by
 obtain ⟨lo, hi, star, single, he, h2, h3, h4, h5, h6⟩ := field_one (by decide) (by decide) h
 rcases he with ⟨e, h1, _, rfl, rfl, rfl, _⟩ | ⟨e, h1, h7, _⟩ | ⟨e1, e2, h1, _⟩
 ·exact ⟨h5, h6⟩
 ·rw [one_piece (by decide)] at h1; injection h1 with h1 _; exact absurd h1.symm h7
 ·rw [one_piece (by decide)] at h1; cases h1
theorem named_len {kind : Int} {l : Txt} {v : Nat} (h : Named kind l v) : l.length = 3 := by
 obtain ⟨hk, h1, h2, h3⟩ := h
 have hm := congrArg List.length ((sameL_iff _ _).1 h3)
 rw [List.length_map, List.length_map] at hm
 rw [← hm]
 rcases hk with rfl | rfl
 ·have hv : v ≤ 12 := by have : (v : Int) ≤ 12 := h2; omega
  have hv0 : 1 ≤ v := by have : (1 : Int) ≤ v := h1; omega
  have : v = 1 ∨ v = 2 ∨ v = 3 ∨ v = 4 ∨ v = 5 ∨ v = 6 ∨ v = 7 ∨ v = 8 ∨ v = 9 ∨ v = 10 ∨ v = 11 ∨ v = 12 := by omega
  rcases this with rfl | rfl | rfl | rfl | rfl | rfl | rfl | rfl | rfl | rfl | rfl | rfl <;> decide
 ·have hv : v ≤ 6 := by have : (v : Int) ≤ 6 := h2; omega
  have : v = 0 ∨ v = 1 ∨ v = 2 ∨ v = 3 ∨ v = 4 ∨ v = 5 ∨ v = 6 := by omega
  rcases this with rfl | rfl | rfl | rfl | rfl | rfl | rfl <;> decide
theorem digit_field {kind : Int} {x : UInt8} (hx : dig x = true) {t : CSet} (h : FieldR kind [x] t) : t.star = false ∧ ∀ i : Nat, i < 63 → t.has i = decide (i = x.toNat - 48) := by
 have hx' : 48 ≤ x.toNat ∧ x.toNat ≤ 57 := by unfold dig at hx; simpa using hx
 have hne : ∀ c : UInt8, c.toNat < 48 → x ≠ c := fun c hc e => by subst e; omega
 have hne2 : x ≠ 63 := fun e => by subst e; revert hx'; decide
 obtain ⟨lo, hi, star, single, he, h2, h3, h4, h5, h6⟩ := field_one (hne _ (by decide)) (hne _ (by decide)) h
 rcases he with ⟨e, h1, h7, _⟩ | ⟨e, h1, h7, h8, h9, rfl, rfl, _⟩ | ⟨e1, e2, h1, _⟩
 ·rw [one_piece (hne _ (by decide))] at h1
  injection h1 with h1 _
  subst h1
  rcases h7 with h7 | ⟨h7, _⟩
  ·injection h7 with h7 _; exact absurd h7 (hne _ (by decide))
  ·injection h7 with h7 _; exact absurd h7 hne2
 ·rw [one_piece (hne _ (by decide))] at h1
  injection h1 with h1 _
  subst h1
  rcases h9 with ⟨v, _, hn⟩ | ⟨_, _, rfl⟩
  ·have := named_len hn; cases this
  ·refine ⟨h5, fun i hi => ?_⟩
   rw [h6 i hi, decide_eq_decide]
   have hv : val [x] = x.toNat - 48 := by unfold val; simp [dval]
   rw [hv]
   omega
 ·rw [one_piece (hne _ (by decide))] at h1; cases h1
theorem all_bits {kind : Int} {lo hi N : Nat} (hlo : low kind = (lo : Int)) (hhi : high kind = (hi : Int)) (h : rangeN lo hi 1 N) (hi63 : hi < 63) {t : CSet} (ht : FieldR kind [42] t) :
  ∃ M : Nat, bits .or .u64 (N : Int) 9223372036854775808 = (M : Int) ∧ BitsOf M t := by
 obtain ⟨h1, h2⟩ := star_field ht
 refine range_bits (lo := lo) (hi := hi) (step := 1) true h ?_ (fun i hi => ?_) hi63 9223372036854775808 rfl
 ·rw [h1]; rfl
 ·rw [h2 i hi, hlo, hhi, decide_eq_decide]; simp [Int.emod_one]
theorem digit_bits {kind : Int} {x : UInt8} (hx : dig x = true) {t : CSet} (h : FieldR kind [x] t) : BitsOf (2 ^ (x.toNat - 48)) t := by
 obtain ⟨h1, h2⟩ := digit_field hx h
 have hx' : 48 ≤ x.toNat ∧ x.toNat ≤ 57 := by unfold dig at hx; simpa using hx
 refine ⟨?_, fun i hi => ?_, ?_⟩
 ·have : 2 ^ (x.toNat - 48) ≤ 2 ^ 9 := Nat.pow_le_pow_right (by decide) (by omega)
  omega
 ·rw [h2 i hi, Nat.testBit_two_pow, decide_eq_decide]; omega
 ·rw [h1, Nat.testBit_two_pow]; simp; omega
theorem all_c (kind : Int) (v : Value) (w : World) (hv : BndAt kind w v) (t : CSet) (ht : FieldR kind [42] t) :
  Calls Tryz.prog 89 #[v] w fun e w' => (∃ N : Nat, e = .returned (.int .u64 (N : Int)) ∧ BitsOf N t) ∧ Below w.heap.size w w' := by
 obtain ⟨m, rfl, _⟩ := hv
 obtain ⟨lo, hlo, hlo1⟩ := low_nat kind
 obtain ⟨hi, hhi, hhi1⟩ := high_nat kind
 have hle : lo ≤ hi := by
  have h1 : low kind ≤ high kind := by unfold low high; repeat' split
                                       all_goals omega
  omega
 have HA := Lib.hid (fun N (h : rangeN lo hi 1 N) => all_bits hlo hhi h (by omega) ht)
 have HG := Lib.hid (fun w => getBits_c lo hi 1 hle (by omega) (by decide) (by decide) w)
 have hb1 : Below w.heap.size w (w.alloc (.cells #[.int .u64 (lo : Int), .int .u64 (hi : Int), .map m] 121)) := below_alloc (Below.refl _ _) _
 have HB1 := Lib.hid hb1
 have hu121 := Tryz.underlying121
 rw [hlo, hhi]
 clear hb1 hlo hhi hlo1 hhi1 hle
 go_enter Tryz.func89, Tryz.ntmps89
 go_wp2_with (go_at_call 117; refine (HG.out _).mono ?_; rintro e w3 ⟨N, rfl, hN, rfl⟩; obtain ⟨M, hM, hM2⟩ := HA.out N hN; have HM2 := Lib.hid hM2; clear hN hM2)
 go_ret
 exact ⟨⟨M, rfl, HM2.out⟩, HB1.out⟩
end Go.Proofs.YtcjdideliifkhaaGreatDoor
