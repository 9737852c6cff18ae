import Derived.Laws.FloatArith
import Derived.Test.YtcjdideliifkhaaGreatDoorB33
set_option maxRecDepth 100000
set_option maxHeartbeats 16000000
namespace Go.Proofs.YtcjdideliifkhaaGreatDoor
open Go.RowKit Go.Proofs.YtcjdideliifkhaaGreatDoorW.PrintWords Go.Proofs.YtcjdideliifkhaaGreatDoorW.PrintLast Go.Proofs.YtcjdideliifkhaaGreatDoorW.PrintMore PFnCronTextAfterAnywhere
set_option linter.unusedVariables false
set_option linter.unusedSimpArgs false
theorem full5 (a b c d e : Txt) : missN 380 5 = some (-1) ∧ full 380 (-1) [a, b, c, d, e] = [[48], a, b, c, d, e] := by
 constructor
 ·kernel_rfl
 ·kernel_rfl
theorem fields5 {l : Txt} {m : CMean} (a b c d e : Txt) (hw : wordsL none l = [a, b, c, d, e]) (h : FieldsR 380 l m) :
  FieldR 0 [48] (m.F 0) ∧ FieldR 1 a (m.F 1) ∧ FieldR 2 b (m.F 2) ∧ FieldR 3 c (m.F 3) ∧ FieldR 4 d (m.F 4) ∧ FieldR 5 e (m.F 5) ∧ m.every = false ∧ m.utc = false := by
 obtain ⟨_, _, mm, hm, hf, h1, h2⟩ := h
 rw [hw] at hm hf
 obtain ⟨g1, g2⟩ := full5 a b c d e
 have : mm = -1 := by
  have : some (-1) = some mm := g1.symm.trans hm
  injection this with this; exact this.symm
 subst this
 have hf' : ∀ (k : Nat) (hk : k < ([[48], a, b, c, d, e] : List Txt).length), FieldR (k : Int) (([[48], a, b, c, d, e] : List Txt)[k]'hk) (m.F k) := fun k hk => by
  have := hf k (by rw [g2]; exact hk)
  simp only [g2] at this
  exact this
 exact ⟨hf' 0 (by show 0 < 6; decide), hf' 1 (by show 1 < 6; decide), hf' 2 (by show 2 < 6; decide), hf' 3 (by show 3 < 6; decide), hf' 4 (by show 4 < 6; decide), hf' 5 (by show 5 < 6; decide), h1, h2⟩
def SpecR (w : World) (m : CMean) (loc : Option Addr) (v : Value) : Prop :=
 ∃ (b n0 n1 n2 n3 n4 n5 : Nat), v = .iface 126 (.pointer (some ⟨b, 0, none⟩)) ∧ IsSpec w b n0 n1 n2 n3 n4 n5 loc ∧
  BitsOf n0 (m.F 0) ∧ BitsOf n1 (m.F 1) ∧ BitsOf n2 (m.F 2) ∧ BitsOf n3 (m.F 3) ∧ BitsOf n4 (m.F 4) ∧ BitsOf n5 (m.F 5)
theorem spec_new (w : World) (n0 n1 n2 n3 n4 n5 : Int) (loc : Option Addr) : IsSpec (w.alloc (.cells #[.int .u64 n0, .int .u64 n1, .int .u64 n2, .int .u64 n3, .int .u64 n4, .int .u64 n5, .pointer loc] 128)) w.heap.size n0 n1 n2 n3 n4 n5 loc := by
 have h := blk_new w (.cells #[.int .u64 n0, .int .u64 n1, .int .u64 n2, .int .u64 n3, .int .u64 n4, .int .u64 n5, .pointer loc] 128)
 exact ⟨blk_lt h, blk_cell h 0, blk_cell h 1, blk_cell h 2, blk_cell h 3, blk_cell h 4, blk_cell h 5, blk_cell h 6⟩
theorem spec_out (w : World) (m : CMean) (loc : Option Addr) (n0 n1 n2 n3 n4 n5 : Nat) (h0 : BitsOf n0 (m.F 0)) (h1 : BitsOf n1 (m.F 1)) (h2 : BitsOf n2 (m.F 2)) (h3 : BitsOf n3 (m.F 3)) (h4 : BitsOf n4 (m.F 4)) (h5 : BitsOf n5 (m.F 5)) :
  SpecR (w.alloc (.cells #[.int .u64 n0, .int .u64 n1, .int .u64 n2, .int .u64 n3, .int .u64 n4, .int .u64 n5, .pointer loc] 128)) m loc (.iface 126 (.pointer (some ⟨w.heap.size, 0, none⟩))) :=
 ⟨_, n0, n1, n2, n3, n4, n5, rfl, spec_new w n0 n1 n2 n3 n4 n5 loc, h0, h1, h2, h3, h4, h5⟩
def SchedR (w : World) (m : CMean) (loc : Option Addr) (v : Value) : Prop :=
 (m.every = false ∧ SpecR w m loc v) ∨ (m.every = true ∧ v = .iface 144 (.agg #[.int .i64 m.delay]))
def DescQ (m : CMean) (loc : Option Addr) (w : World) (e : Ending) (w' : World) : Prop :=
 (∃ v, e = .returned (.tuple #[v, .nilIface]) ∧ SchedR w' m loc v) ∧ Below w.heap.size w w'
theorem bnd_n {kind lo hi : Int} {f : Nat} {w0 w : World} (hlo : low kind = lo) (hhi : high kind = hi) (hb0 : Below w0.heap.size w0 w) (h : Calls Tryz.prog f #[] w fun e w' => ∃ v, e = .returned v ∧ BndAt kind w' v ∧ Below w.heap.size w w') :
  Calls Tryz.prog f #[] w fun e w' => ∃ mp, e = .returned (.agg #[.int .u64 lo, .int .u64 hi, .map mp]) ∧ BndAt kind w' (.agg #[.int .u64 lo, .int .u64 hi, .map mp]) ∧ Below w0.heap.size w0 w' :=
 h.mono fun e w' ⟨v, h1, h2, h3⟩ => by
  subst hlo hhi
  have h2' := h2
  obtain ⟨m, rfl, _⟩ := h2
  exact ⟨m, h1, h2', below_step hb0 h3⟩
theorem all_n {f : Nat} {args : Array Value} {t : CSet} {w0 w : World} (hb0 : Below w0.heap.size w0 w) (h : Calls Tryz.prog f args w fun e w' => (∃ N : Nat, e = .returned (.int .u64 (N : Int)) ∧ BitsOf N t) ∧ Below w.heap.size w w') :
  Calls Tryz.prog f args w fun e w' => ∃ N : Nat, e = .returned (.int .u64 (N : Int)) ∧ BitsOf N t ∧ Below w0.heap.size w0 w' := h.mono fun e w' ⟨⟨N, h1, h2⟩, h3⟩ => ⟨N, h1, h2, below_step hb0 h3⟩
theorem seven {s : ByteArray} {l : Txt} (h : toL s = l) : (s.toList == ([64, 121, 101, 97, 114, 108, 121] : List UInt8)) = (l == [64, 121, 101, 97, 114, 108, 121]) ∧ (s.toList == ([64, 97, 110, 110, 117, 97, 108, 108, 121] : List UInt8)) = (l == [64, 97, 110, 110, 117, 97, 108, 108, 121]) ∧ (s.toList == ([64, 109, 111, 110, 116, 104, 108, 121] : List UInt8)) = (l == [64, 109, 111, 110, 116, 104, 108, 121]) ∧ (s.toList == ([64, 119, 101, 101, 107, 108, 121] : List UInt8)) = (l == [64, 119, 101, 101, 107, 108, 121]) ∧ (s.toList == ([64, 100, 97, 105, 108, 121] : List UInt8)) = (l == [64, 100, 97, 105, 108, 121]) ∧ (s.toList == ([64, 109, 105, 100, 110, 105, 103, 104, 116] : List UInt8)) = (l == [64, 109, 105, 100, 110, 105, 103, 104, 116]) ∧ (s.toList == ([64, 104, 111, 117, 114, 108, 121] : List UInt8)) = (l == [64, 104, 111, 117, 114, 108, 121]) := by
 subst h
 rw [toList_toL]
 exact ⟨rfl, rfl, rfl, rfl, rfl, rfl, rfl⟩
theorem yearly_c (s : ByteArray) (hs : toL s = [64, 121, 101, 97, 114, 108, 121]) (m : CMean) (h : FieldsR 380 [48, 32, 48, 32, 49, 32, 49, 32, 42] m) (loc : Option Addr) (w : World) :
  Calls Tryz.prog 54 #[.string s, .pointer loc] w (DescQ m loc w) := by
 obtain ⟨f0, f1, f2, f3, f4, f5, hme, _⟩ := fields5 [48] [48] [49] [49] [42] (by decide) h
 have B0 := Lib.hid (show BitsOf 1 (m.F 0) from digit_bits (by decide) f0)
 have B1 := Lib.hid (show BitsOf 1 (m.F 1) from digit_bits (by decide) f1)
 have B2 := Lib.hid (show BitsOf 1 (m.F 2) from digit_bits (by decide) f2)
 have B3 := Lib.hid (show BitsOf 2 (m.F 3) from digit_bits (by decide) f3)
 have B4 := Lib.hid (show BitsOf 2 (m.F 4) from digit_bits (by decide) f4)
 have A5 := Lib.hid f5
 have HME := Lib.hid hme
 have HB := Lib.hid (Below.refl w.heap.size w)
 clear f0 f1 f2 f3 f4 f5 h hme
 obtain ⟨hb0, hb1, hb2, hb3, hb4, hb5, hb6⟩ := seven hs
 replace hb0 := hb0.trans (by decide : _ = true)
 replace hb1 := hb1.trans (by decide : _ = false)
 replace hb2 := hb2.trans (by decide : _ = false)
 replace hb3 := hb3.trans (by decide : _ = false)
 replace hb4 := hb4.trans (by decide : _ = false)
 replace hb5 := hb5.trans (by decide : _ = false)
 replace hb6 := hb6.trans (by decide : _ = false)
 have hu121 := Tryz.underlying121
 clear hs
 go_enter Tryz.func54, Tryz.ntmps54
 go_wp2_with (first
   | (refine wpList_exec (.field 121 (.tmp 21) 0) rfl rfl (.int .u64 1) (by kernel_rfl) ?_)
   | (refine wpList_exec (.field 121 (.tmp 24) 0) rfl rfl (.int .u64 1) (by kernel_rfl) ?_)
   | (refine wpList_exec (.field 121 (.tmp 44) 0) rfl rfl (.int .u64 1) (by kernel_rfl) ?_)
   | (refine wpList_exec (.field 121 _ 0) rfl rfl (.int .u64 0) (by kernel_rfl) ?_)
   | (go_at_call 59; refine (bnd_n rfl rfl HB.out (seconds_c _)).mono ?_; rintro e w1 ⟨mp, rfl, hv, hb⟩; replace HB := Lib.hid hb; clear hv hb)
   | (go_at_call 60; refine (bnd_n rfl rfl HB.out (minutes_c _)).mono ?_; rintro e w1 ⟨mp, rfl, hv, hb⟩; replace HB := Lib.hid hb; clear hv hb)
   | (go_at_call 61; refine (bnd_n rfl rfl HB.out (hours_c _)).mono ?_; rintro e w1 ⟨mp, rfl, hv, hb⟩; replace HB := Lib.hid hb; clear hv hb)
   | (go_at_call 62; refine (bnd_n rfl rfl HB.out (dom_c _)).mono ?_; rintro e w1 ⟨mp, rfl, hv, hb⟩; replace HB := Lib.hid hb; clear hv hb)
   | (go_at_call 63; refine (bnd_n rfl rfl HB.out (months_c _)).mono ?_; rintro e w1 ⟨mp, rfl, hv, hb⟩; replace HB := Lib.hid hb; clear hv hb)
   | (go_at_call 64; refine (bnd_n rfl rfl HB.out (dow_c _)).mono ?_; rintro e w1 ⟨mp, rfl, hv, hb⟩; replace HB := Lib.hid hb; have HV5 := Lib.hid hv; clear hv hb)
   | (go_at_call 89; refine (all_n HB.out (all_c 5 _ _ HV5.out _ A5.out)).mono ?_; rintro e w1 ⟨N5, rfl, hN, hb⟩; have B5 := Lib.hid hN; replace HB := Lib.hid hb; clear hN hb HV5 A5))
 go_ret2
 exact ⟨⟨_, rfl, .inl ⟨HME.out, spec_out _ m loc _ _ _ _ _ _ B0.out B1.out B2.out B3.out B4.out B5.out⟩⟩, below_alloc HB.out _⟩
theorem annually_c (s : ByteArray) (hs : toL s = [64, 97, 110, 110, 117, 97, 108, 108, 121]) (m : CMean) (h : FieldsR 380 [48, 32, 48, 32, 49, 32, 49, 32, 42] m) (loc : Option Addr) (w : World) :
  Calls Tryz.prog 54 #[.string s, .pointer loc] w (DescQ m loc w) := by
 obtain ⟨f0, f1, f2, f3, f4, f5, hme, _⟩ := fields5 [48] [48] [49] [49] [42] (by decide) h
 have B0 := Lib.hid (show BitsOf 1 (m.F 0) from digit_bits (by decide) f0)
 have B1 := Lib.hid (show BitsOf 1 (m.F 1) from digit_bits (by decide) f1)
 have B2 := Lib.hid (show BitsOf 1 (m.F 2) from digit_bits (by decide) f2)
 have B3 := Lib.hid (show BitsOf 2 (m.F 3) from digit_bits (by decide) f3)
 have B4 := Lib.hid (show BitsOf 2 (m.F 4) from digit_bits (by decide) f4)
 have A5 := Lib.hid f5
 have HME := Lib.hid hme
 have HB := Lib.hid (Below.refl w.heap.size w)
 clear f0 f1 f2 f3 f4 f5 h hme
 obtain ⟨hb0, hb1, hb2, hb3, hb4, hb5, hb6⟩ := seven hs
 replace hb1 := hb1.trans (by decide : _ = true)
 replace hb0 := hb0.trans (by decide : _ = false)
 replace hb2 := hb2.trans (by decide : _ = false)
 replace hb3 := hb3.trans (by decide : _ = false)
 replace hb4 := hb4.trans (by decide : _ = false)
 replace hb5 := hb5.trans (by decide : _ = false)
 replace hb6 := hb6.trans (by decide : _ = false)
 have hu121 := Tryz.underlying121
 clear hs
 go_enter Tryz.func54, Tryz.ntmps54
 go_wp2_with (first
   | (refine wpList_exec (.field 121 (.tmp 21) 0) rfl rfl (.int .u64 1) (by kernel_rfl) ?_)
   | (refine wpList_exec (.field 121 (.tmp 24) 0) rfl rfl (.int .u64 1) (by kernel_rfl) ?_)
   | (refine wpList_exec (.field 121 (.tmp 44) 0) rfl rfl (.int .u64 1) (by kernel_rfl) ?_)
   | (refine wpList_exec (.field 121 _ 0) rfl rfl (.int .u64 0) (by kernel_rfl) ?_)
   | (go_at_call 59; refine (bnd_n rfl rfl HB.out (seconds_c _)).mono ?_; rintro e w1 ⟨mp, rfl, hv, hb⟩; replace HB := Lib.hid hb; clear hv hb)
   | (go_at_call 60; refine (bnd_n rfl rfl HB.out (minutes_c _)).mono ?_; rintro e w1 ⟨mp, rfl, hv, hb⟩; replace HB := Lib.hid hb; clear hv hb)
   | (go_at_call 61; refine (bnd_n rfl rfl HB.out (hours_c _)).mono ?_; rintro e w1 ⟨mp, rfl, hv, hb⟩; replace HB := Lib.hid hb; clear hv hb)
   | (go_at_call 62; refine (bnd_n rfl rfl HB.out (dom_c _)).mono ?_; rintro e w1 ⟨mp, rfl, hv, hb⟩; replace HB := Lib.hid hb; clear hv hb)
   | (go_at_call 63; refine (bnd_n rfl rfl HB.out (months_c _)).mono ?_; rintro e w1 ⟨mp, rfl, hv, hb⟩; replace HB := Lib.hid hb; clear hv hb)
   | (go_at_call 64; refine (bnd_n rfl rfl HB.out (dow_c _)).mono ?_; rintro e w1 ⟨mp, rfl, hv, hb⟩; replace HB := Lib.hid hb; have HV5 := Lib.hid hv; clear hv hb)
   | (go_at_call 89; refine (all_n HB.out (all_c 5 _ _ HV5.out _ A5.out)).mono ?_; rintro e w1 ⟨N5, rfl, hN, hb⟩; have B5 := Lib.hid hN; replace HB := Lib.hid hb; clear hN hb HV5 A5))
 go_ret2
 exact ⟨⟨_, rfl, .inl ⟨HME.out, spec_out _ m loc _ _ _ _ _ _ B0.out B1.out B2.out B3.out B4.out B5.out⟩⟩, below_alloc HB.out _⟩
theorem monthly_c (s : ByteArray) (hs : toL s = [64, 109, 111, 110, 116, 104, 108, 121]) (m : CMean) (h : FieldsR 380 [48, 32, 48, 32, 49, 32, 42, 32, 42] m) (loc : Option Addr) (w : World) :
  Calls Tryz.prog 54 #[.string s, .pointer loc] w (DescQ m loc w) := by
 obtain ⟨f0, f1, f2, f3, f4, f5, hme, _⟩ := fields5 [48] [48] [49] [42] [42] (by decide) h
 have B0 := Lib.hid (show BitsOf 1 (m.F 0) from digit_bits (by decide) f0)
 have B1 := Lib.hid (show BitsOf 1 (m.F 1) from digit_bits (by decide) f1)
 have B2 := Lib.hid (show BitsOf 1 (m.F 2) from digit_bits (by decide) f2)
 have B3 := Lib.hid (show BitsOf 2 (m.F 3) from digit_bits (by decide) f3)
 have A4 := Lib.hid f4
 have A5 := Lib.hid f5
 have HME := Lib.hid hme
 have HB := Lib.hid (Below.refl w.heap.size w)
 clear f0 f1 f2 f3 f4 f5 h hme
 obtain ⟨hb0, hb1, hb2, hb3, hb4, hb5, hb6⟩ := seven hs
 replace hb2 := hb2.trans (by decide : _ = true)
 replace hb0 := hb0.trans (by decide : _ = false)
 replace hb1 := hb1.trans (by decide : _ = false)
 replace hb3 := hb3.trans (by decide : _ = false)
 replace hb4 := hb4.trans (by decide : _ = false)
 replace hb5 := hb5.trans (by decide : _ = false)
 replace hb6 := hb6.trans (by decide : _ = false)
 have hu121 := Tryz.underlying121
 clear hs
 go_enter Tryz.func54, Tryz.ntmps54
 go_wp2_with (first
   | (refine wpList_exec (.field 121 (.tmp 21) 0) rfl rfl (.int .u64 1) (by kernel_rfl) ?_)
   | (refine wpList_exec (.field 121 (.tmp 24) 0) rfl rfl (.int .u64 1) (by kernel_rfl) ?_)
   | (refine wpList_exec (.field 121 (.tmp 44) 0) rfl rfl (.int .u64 1) (by kernel_rfl) ?_)
   | (refine wpList_exec (.field 121 _ 0) rfl rfl (.int .u64 0) (by kernel_rfl) ?_)
   | (go_at_call 59; refine (bnd_n rfl rfl HB.out (seconds_c _)).mono ?_; rintro e w1 ⟨mp, rfl, hv, hb⟩; replace HB := Lib.hid hb; clear hv hb)
   | (go_at_call 60; refine (bnd_n rfl rfl HB.out (minutes_c _)).mono ?_; rintro e w1 ⟨mp, rfl, hv, hb⟩; replace HB := Lib.hid hb; clear hv hb)
   | (go_at_call 61; refine (bnd_n rfl rfl HB.out (hours_c _)).mono ?_; rintro e w1 ⟨mp, rfl, hv, hb⟩; replace HB := Lib.hid hb; clear hv hb)
   | (go_at_call 62; refine (bnd_n rfl rfl HB.out (dom_c _)).mono ?_; rintro e w1 ⟨mp, rfl, hv, hb⟩; replace HB := Lib.hid hb; clear hv hb)
   | (go_at_call 63; refine (bnd_n rfl rfl HB.out (months_c _)).mono ?_; rintro e w1 ⟨mp, rfl, hv, hb⟩; replace HB := Lib.hid hb; have HV4 := Lib.hid hv; clear hv hb)
   | (go_at_call 89; refine (all_n HB.out (all_c 4 _ _ HV4.out _ A4.out)).mono ?_; rintro e w1 ⟨N4, rfl, hN, hb⟩; have B4 := Lib.hid hN; replace HB := Lib.hid hb; clear hN hb HV4 A4)
   | (go_at_call 64; refine (bnd_n rfl rfl HB.out (dow_c _)).mono ?_; rintro e w1 ⟨mp, rfl, hv, hb⟩; replace HB := Lib.hid hb; have HV5 := Lib.hid hv; clear hv hb)
   | (go_at_call 89; refine (all_n HB.out (all_c 5 _ _ HV5.out _ A5.out)).mono ?_; rintro e w1 ⟨N5, rfl, hN, hb⟩; have B5 := Lib.hid hN; replace HB := Lib.hid hb; clear hN hb HV5 A5))
 go_ret2
 exact ⟨⟨_, rfl, .inl ⟨HME.out, spec_out _ m loc _ _ _ _ _ _ B0.out B1.out B2.out B3.out B4.out B5.out⟩⟩, below_alloc HB.out _⟩
theorem weekly_c (s : ByteArray) (hs : toL s = [64, 119, 101, 101, 107, 108, 121]) (m : CMean) (h : FieldsR 380 [48, 32, 48, 32, 42, 32, 42, 32, 48] m) (loc : Option Addr) (w : World) :
  Calls Tryz.prog 54 #[.string s, .pointer loc] w (DescQ m loc w) := by
 obtain ⟨f0, f1, f2, f3, f4, f5, hme, _⟩ := fields5 [48] [48] [42] [42] [48] (by decide) h
 have B0 := Lib.hid (show BitsOf 1 (m.F 0) from digit_bits (by decide) f0)
 have B1 := Lib.hid (show BitsOf 1 (m.F 1) from digit_bits (by decide) f1)
 have B2 := Lib.hid (show BitsOf 1 (m.F 2) from digit_bits (by decide) f2)
 have A3 := Lib.hid f3
 have A4 := Lib.hid f4
 have B5 := Lib.hid (show BitsOf 1 (m.F 5) from digit_bits (by decide) f5)
 have HME := Lib.hid hme
 have HB := Lib.hid (Below.refl w.heap.size w)
 clear f0 f1 f2 f3 f4 f5 h hme
 obtain ⟨hb0, hb1, hb2, hb3, hb4, hb5, hb6⟩ := seven hs
 replace hb3 := hb3.trans (by decide : _ = true)
 replace hb0 := hb0.trans (by decide : _ = false)
 replace hb1 := hb1.trans (by decide : _ = false)
 replace hb2 := hb2.trans (by decide : _ = false)
 replace hb4 := hb4.trans (by decide : _ = false)
 replace hb5 := hb5.trans (by decide : _ = false)
 replace hb6 := hb6.trans (by decide : _ = false)
 have hu121 := Tryz.underlying121
 clear hs
 go_enter Tryz.func54, Tryz.ntmps54
 go_wp2_with (first
   | (refine wpList_exec (.field 121 (.tmp 21) 0) rfl rfl (.int .u64 1) (by kernel_rfl) ?_)
   | (refine wpList_exec (.field 121 (.tmp 24) 0) rfl rfl (.int .u64 1) (by kernel_rfl) ?_)
   | (refine wpList_exec (.field 121 (.tmp 44) 0) rfl rfl (.int .u64 1) (by kernel_rfl) ?_)
   | (refine wpList_exec (.field 121 _ 0) rfl rfl (.int .u64 0) (by kernel_rfl) ?_)
   | (go_at_call 59; refine (bnd_n rfl rfl HB.out (seconds_c _)).mono ?_; rintro e w1 ⟨mp, rfl, hv, hb⟩; replace HB := Lib.hid hb; clear hv hb)
   | (go_at_call 60; refine (bnd_n rfl rfl HB.out (minutes_c _)).mono ?_; rintro e w1 ⟨mp, rfl, hv, hb⟩; replace HB := Lib.hid hb; clear hv hb)
   | (go_at_call 61; refine (bnd_n rfl rfl HB.out (hours_c _)).mono ?_; rintro e w1 ⟨mp, rfl, hv, hb⟩; replace HB := Lib.hid hb; clear hv hb)
   | (go_at_call 62; refine (bnd_n rfl rfl HB.out (dom_c _)).mono ?_; rintro e w1 ⟨mp, rfl, hv, hb⟩; replace HB := Lib.hid hb; have HV3 := Lib.hid hv; clear hv hb)
   | (go_at_call 89; refine (all_n HB.out (all_c 3 _ _ HV3.out _ A3.out)).mono ?_; rintro e w1 ⟨N3, rfl, hN, hb⟩; have B3 := Lib.hid hN; replace HB := Lib.hid hb; clear hN hb HV3 A3)
   | (go_at_call 63; refine (bnd_n rfl rfl HB.out (months_c _)).mono ?_; rintro e w1 ⟨mp, rfl, hv, hb⟩; replace HB := Lib.hid hb; have HV4 := Lib.hid hv; clear hv hb)
   | (go_at_call 89; refine (all_n HB.out (all_c 4 _ _ HV4.out _ A4.out)).mono ?_; rintro e w1 ⟨N4, rfl, hN, hb⟩; have B4 := Lib.hid hN; replace HB := Lib.hid hb; clear hN hb HV4 A4)
   | (go_at_call 64; refine (bnd_n rfl rfl HB.out (dow_c _)).mono ?_; rintro e w1 ⟨mp, rfl, hv, hb⟩; replace HB := Lib.hid hb; clear hv hb))
 go_ret2
 exact ⟨⟨_, rfl, .inl ⟨HME.out, spec_out _ m loc _ _ _ _ _ _ B0.out B1.out B2.out B3.out B4.out B5.out⟩⟩, below_alloc HB.out _⟩
theorem daily_c (s : ByteArray) (hs : toL s = [64, 100, 97, 105, 108, 121]) (m : CMean) (h : FieldsR 380 [48, 32, 48, 32, 42, 32, 42, 32, 42] m) (loc : Option Addr) (w : World) :
  Calls Tryz.prog 54 #[.string s, .pointer loc] w (DescQ m loc w) := by
 obtain ⟨f0, f1, f2, f3, f4, f5, hme, _⟩ := fields5 [48] [48] [42] [42] [42] (by decide) h
 have B0 := Lib.hid (show BitsOf 1 (m.F 0) from digit_bits (by decide) f0)
 have B1 := Lib.hid (show BitsOf 1 (m.F 1) from digit_bits (by decide) f1)
 have B2 := Lib.hid (show BitsOf 1 (m.F 2) from digit_bits (by decide) f2)
 have A3 := Lib.hid f3
 have A4 := Lib.hid f4
 have A5 := Lib.hid f5
 have HME := Lib.hid hme
 have HB := Lib.hid (Below.refl w.heap.size w)
 clear f0 f1 f2 f3 f4 f5 h hme
 obtain ⟨hb0, hb1, hb2, hb3, hb4, hb5, hb6⟩ := seven hs
 replace hb4 := hb4.trans (by decide : _ = true)
 replace hb0 := hb0.trans (by decide : _ = false)
 replace hb1 := hb1.trans (by decide : _ = false)
 replace hb2 := hb2.trans (by decide : _ = false)
 replace hb3 := hb3.trans (by decide : _ = false)
 replace hb5 := hb5.trans (by decide : _ = false)
 replace hb6 := hb6.trans (by decide : _ = false)
 have hu121 := Tryz.underlying121
 clear hs
 go_enter Tryz.func54, Tryz.ntmps54
 go_wp2_with (first
   | (refine wpList_exec (.field 121 (.tmp 21) 0) rfl rfl (.int .u64 1) (by kernel_rfl) ?_)
   | (refine wpList_exec (.field 121 (.tmp 24) 0) rfl rfl (.int .u64 1) (by kernel_rfl) ?_)
   | (refine wpList_exec (.field 121 (.tmp 44) 0) rfl rfl (.int .u64 1) (by kernel_rfl) ?_)
   | (refine wpList_exec (.field 121 _ 0) rfl rfl (.int .u64 0) (by kernel_rfl) ?_)
   | (go_at_call 59; refine (bnd_n rfl rfl HB.out (seconds_c _)).mono ?_; rintro e w1 ⟨mp, rfl, hv, hb⟩; replace HB := Lib.hid hb; clear hv hb)
   | (go_at_call 60; refine (bnd_n rfl rfl HB.out (minutes_c _)).mono ?_; rintro e w1 ⟨mp, rfl, hv, hb⟩; replace HB := Lib.hid hb; clear hv hb)
   | (go_at_call 61; refine (bnd_n rfl rfl HB.out (hours_c _)).mono ?_; rintro e w1 ⟨mp, rfl, hv, hb⟩; replace HB := Lib.hid hb; clear hv hb)
   | (go_at_call 62; refine (bnd_n rfl rfl HB.out (dom_c _)).mono ?_; rintro e w1 ⟨mp, rfl, hv, hb⟩; replace HB := Lib.hid hb; have HV3 := Lib.hid hv; clear hv hb)
   | (go_at_call 89; refine (all_n HB.out (all_c 3 _ _ HV3.out _ A3.out)).mono ?_; rintro e w1 ⟨N3, rfl, hN, hb⟩; have B3 := Lib.hid hN; replace HB := Lib.hid hb; clear hN hb HV3 A3)
   | (go_at_call 63; refine (bnd_n rfl rfl HB.out (months_c _)).mono ?_; rintro e w1 ⟨mp, rfl, hv, hb⟩; replace HB := Lib.hid hb; have HV4 := Lib.hid hv; clear hv hb)
   | (go_at_call 89; refine (all_n HB.out (all_c 4 _ _ HV4.out _ A4.out)).mono ?_; rintro e w1 ⟨N4, rfl, hN, hb⟩; have B4 := Lib.hid hN; replace HB := Lib.hid hb; clear hN hb HV4 A4)
   | (go_at_call 64; refine (bnd_n rfl rfl HB.out (dow_c _)).mono ?_; rintro e w1 ⟨mp, rfl, hv, hb⟩; replace HB := Lib.hid hb; have HV5 := Lib.hid hv; clear hv hb)
   | (go_at_call 89; refine (all_n HB.out (all_c 5 _ _ HV5.out _ A5.out)).mono ?_; rintro e w1 ⟨N5, rfl, hN, hb⟩; have B5 := Lib.hid hN; replace HB := Lib.hid hb; clear hN hb HV5 A5))
 go_ret2
 exact ⟨⟨_, rfl, .inl ⟨HME.out, spec_out _ m loc _ _ _ _ _ _ B0.out B1.out B2.out B3.out B4.out B5.out⟩⟩, below_alloc HB.out _⟩
theorem midnight_c (s : ByteArray) (hs : toL s = [64, 109, 105, 100, 110, 105, 103, 104, 116]) (m : CMean) (h : FieldsR 380 [48, 32, 48, 32, 42, 32, 42, 32, 42] m) (loc : Option Addr) (w : World) :
  Calls Tryz.prog 54 #[.string s, .pointer loc] w (DescQ m loc w) := by
 obtain ⟨f0, f1, f2, f3, f4, f5, hme, _⟩ := fields5 [48] [48] [42] [42] [42] (by decide) h
 have B0 := Lib.hid (show BitsOf 1 (m.F 0) from digit_bits (by decide) f0)
 have B1 := Lib.hid (show BitsOf 1 (m.F 1) from digit_bits (by decide) f1)
 have B2 := Lib.hid (show BitsOf 1 (m.F 2) from digit_bits (by decide) f2)
 have A3 := Lib.hid f3
 have A4 := Lib.hid f4
 have A5 := Lib.hid f5
 have HME := Lib.hid hme
 have HB := Lib.hid (Below.refl w.heap.size w)
 clear f0 f1 f2 f3 f4 f5 h hme
 obtain ⟨hb0, hb1, hb2, hb3, hb4, hb5, hb6⟩ := seven hs
 replace hb5 := hb5.trans (by decide : _ = true)
 replace hb0 := hb0.trans (by decide : _ = false)
 replace hb1 := hb1.trans (by decide : _ = false)
 replace hb2 := hb2.trans (by decide : _ = false)
 replace hb3 := hb3.trans (by decide : _ = false)
 replace hb4 := hb4.trans (by decide : _ = false)
 replace hb6 := hb6.trans (by decide : _ = false)
 have hu121 := Tryz.underlying121
 clear hs
 go_enter Tryz.func54, Tryz.ntmps54
 go_wp2_with (first
   | (refine wpList_exec (.field 121 (.tmp 21) 0) rfl rfl (.int .u64 1) (by kernel_rfl) ?_)
   | (refine wpList_exec (.field 121 (.tmp 24) 0) rfl rfl (.int .u64 1) (by kernel_rfl) ?_)
   | (refine wpList_exec (.field 121 (.tmp 44) 0) rfl rfl (.int .u64 1) (by kernel_rfl) ?_)
   | (refine wpList_exec (.field 121 _ 0) rfl rfl (.int .u64 0) (by kernel_rfl) ?_)
   | (go_at_call 59; refine (bnd_n rfl rfl HB.out (seconds_c _)).mono ?_; rintro e w1 ⟨mp, rfl, hv, hb⟩; replace HB := Lib.hid hb; clear hv hb)
   | (go_at_call 60; refine (bnd_n rfl rfl HB.out (minutes_c _)).mono ?_; rintro e w1 ⟨mp, rfl, hv, hb⟩; replace HB := Lib.hid hb; clear hv hb)
   | (go_at_call 61; refine (bnd_n rfl rfl HB.out (hours_c _)).mono ?_; rintro e w1 ⟨mp, rfl, hv, hb⟩; replace HB := Lib.hid hb; clear hv hb)
   | (go_at_call 62; refine (bnd_n rfl rfl HB.out (dom_c _)).mono ?_; rintro e w1 ⟨mp, rfl, hv, hb⟩; replace HB := Lib.hid hb; have HV3 := Lib.hid hv; clear hv hb)
   | (go_at_call 89; refine (all_n HB.out (all_c 3 _ _ HV3.out _ A3.out)).mono ?_; rintro e w1 ⟨N3, rfl, hN, hb⟩; have B3 := Lib.hid hN; replace HB := Lib.hid hb; clear hN hb HV3 A3)
   | (go_at_call 63; refine (bnd_n rfl rfl HB.out (months_c _)).mono ?_; rintro e w1 ⟨mp, rfl, hv, hb⟩; replace HB := Lib.hid hb; have HV4 := Lib.hid hv; clear hv hb)
   | (go_at_call 89; refine (all_n HB.out (all_c 4 _ _ HV4.out _ A4.out)).mono ?_; rintro e w1 ⟨N4, rfl, hN, hb⟩; have B4 := Lib.hid hN; replace HB := Lib.hid hb; clear hN hb HV4 A4)
   | (go_at_call 64; refine (bnd_n rfl rfl HB.out (dow_c _)).mono ?_; rintro e w1 ⟨mp, rfl, hv, hb⟩; replace HB := Lib.hid hb; have HV5 := Lib.hid hv; clear hv hb)
   | (go_at_call 89; refine (all_n HB.out (all_c 5 _ _ HV5.out _ A5.out)).mono ?_; rintro e w1 ⟨N5, rfl, hN, hb⟩; have B5 := Lib.hid hN; replace HB := Lib.hid hb; clear hN hb HV5 A5))
 go_ret2
 exact ⟨⟨_, rfl, .inl ⟨HME.out, spec_out _ m loc _ _ _ _ _ _ B0.out B1.out B2.out B3.out B4.out B5.out⟩⟩, below_alloc HB.out _⟩
theorem hourly_c (s : ByteArray) (hs : toL s = [64, 104, 111, 117, 114, 108, 121]) (m : CMean) (h : FieldsR 380 [48, 32, 42, 32, 42, 32, 42, 32, 42] m) (loc : Option Addr) (w : World) :
  Calls Tryz.prog 54 #[.string s, .pointer loc] w (DescQ m loc w) := by
 obtain ⟨f0, f1, f2, f3, f4, f5, hme, _⟩ := fields5 [48] [42] [42] [42] [42] (by decide) h
 have B0 := Lib.hid (show BitsOf 1 (m.F 0) from digit_bits (by decide) f0)
 have B1 := Lib.hid (show BitsOf 1 (m.F 1) from digit_bits (by decide) f1)
 have A2 := Lib.hid f2
 have A3 := Lib.hid f3
 have A4 := Lib.hid f4
 have A5 := Lib.hid f5
 have HME := Lib.hid hme
 have HB := Lib.hid (Below.refl w.heap.size w)
 clear f0 f1 f2 f3 f4 f5 h hme
 obtain ⟨hb0, hb1, hb2, hb3, hb4, hb5, hb6⟩ := seven hs
 replace hb6 := hb6.trans (by decide : _ = true)
 replace hb0 := hb0.trans (by decide : _ = false)
 replace hb1 := hb1.trans (by decide : _ = false)
 replace hb2 := hb2.trans (by decide : _ = false)
 replace hb3 := hb3.trans (by decide : _ = false)
 replace hb4 := hb4.trans (by decide : _ = false)
 replace hb5 := hb5.trans (by decide : _ = false)
 have hu121 := Tryz.underlying121
 clear hs
 go_enter Tryz.func54, Tryz.ntmps54
 go_wp2_with (first
   | (refine wpList_exec (.field 121 (.tmp 21) 0) rfl rfl (.int .u64 1) (by kernel_rfl) ?_)
   | (refine wpList_exec (.field 121 (.tmp 24) 0) rfl rfl (.int .u64 1) (by kernel_rfl) ?_)
   | (refine wpList_exec (.field 121 (.tmp 44) 0) rfl rfl (.int .u64 1) (by kernel_rfl) ?_)
   | (refine wpList_exec (.field 121 _ 0) rfl rfl (.int .u64 0) (by kernel_rfl) ?_)
   | (go_at_call 59; refine (bnd_n rfl rfl HB.out (seconds_c _)).mono ?_; rintro e w1 ⟨mp, rfl, hv, hb⟩; replace HB := Lib.hid hb; clear hv hb)
   | (go_at_call 60; refine (bnd_n rfl rfl HB.out (minutes_c _)).mono ?_; rintro e w1 ⟨mp, rfl, hv, hb⟩; replace HB := Lib.hid hb; clear hv hb)
   | (go_at_call 61; refine (bnd_n rfl rfl HB.out (hours_c _)).mono ?_; rintro e w1 ⟨mp, rfl, hv, hb⟩; replace HB := Lib.hid hb; have HV2 := Lib.hid hv; clear hv hb)
   | (go_at_call 89; refine (all_n HB.out (all_c 2 _ _ HV2.out _ A2.out)).mono ?_; rintro e w1 ⟨N2, rfl, hN, hb⟩; have B2 := Lib.hid hN; replace HB := Lib.hid hb; clear hN hb HV2 A2)
   | (go_at_call 62; refine (bnd_n rfl rfl HB.out (dom_c _)).mono ?_; rintro e w1 ⟨mp, rfl, hv, hb⟩; replace HB := Lib.hid hb; have HV3 := Lib.hid hv; clear hv hb)
   | (go_at_call 89; refine (all_n HB.out (all_c 3 _ _ HV3.out _ A3.out)).mono ?_; rintro e w1 ⟨N3, rfl, hN, hb⟩; have B3 := Lib.hid hN; replace HB := Lib.hid hb; clear hN hb HV3 A3)
   | (go_at_call 63; refine (bnd_n rfl rfl HB.out (months_c _)).mono ?_; rintro e w1 ⟨mp, rfl, hv, hb⟩; replace HB := Lib.hid hb; have HV4 := Lib.hid hv; clear hv hb)
   | (go_at_call 89; refine (all_n HB.out (all_c 4 _ _ HV4.out _ A4.out)).mono ?_; rintro e w1 ⟨N4, rfl, hN, hb⟩; have B4 := Lib.hid hN; replace HB := Lib.hid hb; clear hN hb HV4 A4)
   | (go_at_call 64; refine (bnd_n rfl rfl HB.out (dow_c _)).mono ?_; rintro e w1 ⟨mp, rfl, hv, hb⟩; replace HB := Lib.hid hb; have HV5 := Lib.hid hv; clear hv hb)
   | (go_at_call 89; refine (all_n HB.out (all_c 5 _ _ HV5.out _ A5.out)).mono ?_; rintro e w1 ⟨N5, rfl, hN, hb⟩; have B5 := Lib.hid hN; replace HB := Lib.hid hb; clear hN hb HV5 A5))
 go_ret2
 exact ⟨⟨_, rfl, .inl ⟨HME.out, spec_out _ m loc _ _ _ _ _ _ B0.out B1.out B2.out B3.out B4.out B5.out⟩⟩, below_alloc HB.out _⟩
end Go.Proofs.YtcjdideliifkhaaGreatDoor
namespace Go.Proofs.YtcjdideliifkhaaGreatDoor.Flo
open Ieee
def W (n : Nat) : Nat := double.nearest false n 0
theorem l2_mul (n k : Nat) (h : n ≠ 0) : (n * 2 ^ k).log2 = n.log2 + k := by
 induction k with
 | zero => simp
 | succ k ih =>
  have hne : n * 2 ^ k ≠ 0 := Nat.mul_ne_zero h (Nat.pos_iff_ne_zero.1 (Nat.two_pow_pos _))
  rw [Nat.pow_succ, ← Nat.mul_assoc, Nat.mul_comm _ 2, Nat.log2_two_mul hne, ih]; omega
theorem l2_lo (n : Nat) (h : n ≠ 0) : 2 ^ n.log2 ≤ n := Nat.log2_self_le h
theorem l2_hi (n : Nat) (h : n ≠ 0) : n < 2 ^ (n.log2 + 1) := Nat.lt_log2_self
theorem l2_53 {n : Nat} (h0 : n ≠ 0) (h : n < 9007199254740992) : n.log2 ≤ 52 := by
 have : n.log2 < 53 := (Nat.log2_lt h0).2 h
 omega
def sig (n : Nat) : Nat := n * 2 ^ (52 - n.log2)
theorem sig_rng {n : Nat} (h0 : n ≠ 0) (h : n < 9007199254740992) : 4503599627370496 ≤ sig n ∧ sig n < 9007199254740992 := by
 have hl := l2_53 h0 h
 have a := l2_lo n h0
 have b := l2_hi n h0
 have e1 : 2 ^ n.log2 * 2 ^ (52 - n.log2) = 4503599627370496 := by rw [← Nat.pow_add, show n.log2 + (52 - n.log2) = 52 by omega]
 have e2 : 2 ^ (n.log2 + 1) * 2 ^ (52 - n.log2) = 9007199254740992 := by rw [← Nat.pow_add, show n.log2 + 1 + (52 - n.log2) = 53 by omega]
 unfold sig
 have hp : 0 < 2 ^ (52 - n.log2) := Nat.two_pow_pos _
 constructor
 ·rw [← e1]; exact Nat.mul_le_mul_right _ a
 ·rw [← e2]; exact Nat.mul_lt_mul_of_pos_right b hp
theorem cut_exact (way : Toward) (q d : Nat) (hd : d ≤ (q * 2 ^ d).log2 + 2) : way.cut false (q * 2 ^ d) d = q := by
 unfold Toward.cut
 have hm : min d ((q * 2 ^ d).log2 + 2) = d := Nat.min_eq_left hd
 have hg : 1 <<< d = 2 ^ d := by rw [Nat.shiftLeft_eq, Nat.one_mul]
 have hp : 0 < 2 ^ d := Nat.two_pow_pos _
 simp only [hm, hg, Nat.mul_div_cancel _ hp, Nat.mul_mod_left, Nat.mul_zero]
 cases way <;> simp <;> omega
theorem least : double.leastPlace = -1074 := by decide
theorem frac : double.fractionBits = 52 := rfl
theorem binade : double.binade = 4503599627370496 := by decide
theorem infR : double.infRung = 9218868437227405312 := by decide
theorem sgn : double.signWeight = 9223372036854775808 := by decide
theorem near (n k : Nat) (h0 : n ≠ 0) (h : n < 9007199254740992) (hk : k ≤ 200) : double.nearest false (n * 2 ^ k) (-(k : Int)) = (n.log2 + 1022) * 4503599627370496 + sig n := by
 have hl := l2_53 h0 h
 have hs := sig_rng h0 h
 have hne : n * 2 ^ k ≠ 0 := Nat.mul_ne_zero h0 (Nat.pos_iff_ne_zero.1 (Nat.two_pow_pos _))
 unfold Format.nearest
 rw [if_neg hne, l2_mul n k h0]
 have hlast : max (-(k : Int) + ((n.log2 + k : Nat) : Int) - (double.fractionBits : Int)) double.leastPlace = (n.log2 : Int) - 52 := by
  rw [frac, least]; omega
 simp only [hlast]
 have hkept : Toward.even.cut false ((n * 2 ^ k) <<< (-(k : Int) - ((n.log2 : Int) - 52)).toNat) ((n.log2 : Int) - 52 - -(k : Int)).toNat = sig n := by
  by_cases c : k ≤ 52 - n.log2
  ·have e1 : (-(k : Int) - ((n.log2 : Int) - 52)).toNat = 52 - n.log2 - k := by omega
   have e2 : ((n.log2 : Int) - 52 - -(k : Int)).toNat = 0 := by omega
   rw [e1, e2, Nat.shiftLeft_eq, Nat.mul_assoc, ← Nat.pow_add, show k + (52 - n.log2 - k) = 52 - n.log2 by omega]
   have := cut_exact .even (sig n) 0 (Nat.zero_le _)
   rw [Nat.pow_zero, Nat.mul_one] at this
   exact this
  ·have e1 : (-(k : Int) - ((n.log2 : Int) - 52)).toNat = 0 := by omega
   have e2 : ((n.log2 : Int) - 52 - -(k : Int)).toNat = k - (52 - n.log2) := by omega
   rw [e1, e2, Nat.shiftLeft_zero]
   have e3 : n * 2 ^ k = sig n * 2 ^ (k - (52 - n.log2)) := by
    unfold sig; rw [Nat.mul_assoc, ← Nat.pow_add, show 52 - n.log2 + (k - (52 - n.log2)) = k by omega]
   have e4 : (n * 2 ^ k).log2 = n.log2 + k := l2_mul n k h0
   rw [e3] at e4 ⊢
   exact cut_exact .even _ _ (by omega)
 rw [hkept, least, binade, infR]
 have e5 : ((n.log2 : Int) - 52 - -1074).toNat = n.log2 + 1022 := by omega
 rw [e5]
 unfold Format.word
 rw [if_neg (by decide), Nat.min_eq_left (by omega)]
theorem W_eq (n : Nat) (h0 : n ≠ 0) (h : n < 9007199254740992) : W n = (n.log2 + 1022) * 4503599627370496 + sig n := by
 have := near n 0 h0 h (by decide)
 rw [Nat.pow_zero, Nat.mul_one] at this
 exact this
theorem read_W (n : Nat) (h0 : n ≠ 0) (h : n < 9007199254740992) : double.read (W n) = .number false (sig n) ((n.log2 : Int) - 52) := by
 have hl := l2_53 h0 h
 have hs := sig_rng h0 h
 have hW := W_eq n h0 h
 generalize W n = w at *
 generalize sig n = g at *
 unfold Format.read
 rw [sgn, binade, infR, least]
 have e1 : w / 9223372036854775808 = 0 := by omega
 have e2 : w % 9223372036854775808 = w := by omega
 have e3 : w / 4503599627370496 = n.log2 + 1023 := by omega
 have e4 : w % 4503599627370496 = g - 4503599627370496 := by omega
 simp only [e1, e2, e3, e4]
 rw [if_neg (by omega), if_pos (by omega)]
 have e5 : 4503599627370496 + (g - 4503599627370496) = g := by omega
 have e6 : (-1074 : Int) + ((n.log2 + 1023 - 1 : Nat) : Int) = (n.log2 : Int) - 52 := by omega
 rw [e5, e6]; rfl
theorem mul_W (a b : Nat) (ha : a ≠ 0) (hb : b ≠ 0) (h : a * b < 9007199254740992) : double.mul (W a) (W b) = some (W (a * b)) := by
 have ha' : a < 9007199254740992 := Nat.lt_of_le_of_lt (Nat.le_mul_of_pos_right a (Nat.pos_of_ne_zero hb)) h
 have hb' : b < 9007199254740992 := Nat.lt_of_le_of_lt (Nat.le_mul_of_pos_left b (Nat.pos_of_ne_zero ha)) h
 have hla := l2_53 ha ha'
 have hlb := l2_53 hb hb'
 have hab : a * b ≠ 0 := Nat.mul_ne_zero ha hb
 unfold Format.mul
 rw [read_W a ha ha', read_W b hb hb']
 show some (double.write (.number (false ^^ false) (sig a * sig b) ((a.log2 : Int) - 52 + ((b.log2 : Int) - 52)))) = _
 congr 1
 show double.nearest false (sig a * sig b) ((a.log2 : Int) - 52 + ((b.log2 : Int) - 52)) = _
 have e1 : sig a * sig b = a * b * 2 ^ (104 - a.log2 - b.log2) := by
  unfold sig
  rw [show 104 - a.log2 - b.log2 = (52 - a.log2) + (52 - b.log2) by omega, Nat.pow_add]
  rw [Nat.mul_mul_mul_comm]
 have e2 : ((a.log2 : Int) - 52 + ((b.log2 : Int) - 52)) = -((104 - a.log2 - b.log2 : Nat) : Int) := by omega
 rw [e1, e2, near _ _ hab h (by omega), W_eq _ hab h]
theorem toInt_W (n : Nat) (h0 : n ≠ 0) (h : n < 9007199254740992) : (double.read (W n)).toInt .zero = some (n : Int) := by
 have hl := l2_53 h0 h
 rw [read_W n h0 h]
 unfold Datum.toInt Datum.integral
 have e1 : ((n.log2 : Int) - 52).toNat = 0 := by omega
 have e2 : (-((n.log2 : Int) - 52)).toNat = 52 - n.log2 := by omega
 simp only [e1, e2, Nat.shiftLeft_zero]
 unfold sig
 rw [cut_exact .zero n (52 - n.log2) (by rw [l2_mul n _ h0]; omega)]
 simp [signed]
theorem ofInt_W (n : Nat) : floatOfInt .f64 (n : Int) = W n := by
 unfold floatOfInt FloatKind.nearest FloatKind.encode W
 have : decide ((n : Int) < 0) = false := by simp
 show double.write (.number (decide ((n : Int) < 0)) ((n : Int).natAbs) 0) = _
 rw [this, Int.natAbs_natCast]; rfl
theorem mul_bits (a b : Nat) (ha : a ≠ 0) (hb : b ≠ 0) (h : a * b < 9007199254740992) : floatBits .mul .f64 (W a) (W b) = some (W (a * b)) := mul_W a b ha hb h
theorem toInt_bits (n : Nat) (h0 : n ≠ 0) (h : n < 9007199254740992) : floatToIntVal .f64 (W n) .u64 = some (n : Int) := by
 unfold floatToIntVal
 show (match (double.read (W n)).toInt .zero with | some n => if IntKind.u64.min ≤ n ∧ n ≤ IntKind.u64.max then some n else none | none => none) = _
 rw [toInt_W n h0 h]
 show (if IntKind.u64.min ≤ (n : Int) ∧ (n : Int) ≤ IntKind.u64.max then some (n : Int) else none) = _
 have e1 : IntKind.u64.min = 0 := by decide
 have e2 : IntKind.u64.max = 18446744073709551615 := by decide
 rw [e1, e2, if_pos (by omega)]
def quoOk (u k : Nat) : Bool := double.div (W u) (W (10 ^ k)) == some (W (u / 10 ^ k)) && u % 10 ^ k == 0
theorem quo_all : ([(1, 0), (1000, 3), (1000000, 6), (1000000000, 9), (60000000000, 10), (3600000000000, 11)].all fun p => (List.range (p.2 + 1)).all fun k => quoOk p.1 k) = true := by decide +kernel
theorem quo_bits {u m k : Nat} (h : (u, m) ∈ [(1, 0), (1000, 3), (1000000, 6), (1000000000, 9), (60000000000, 10), (3600000000000, 11)]) (hk : k ≤ m) : floatBits .quo .f64 (W u) (W (10 ^ k)) = some (W (u / 10 ^ k)) ∧ u % 10 ^ k = 0 := by
 have h1 := List.all_eq_true.1 quo_all (u, m) h
 have h2 := List.all_eq_true.1 h1 k (List.mem_range.2 (by show k < m + 1; omega))
 unfold quoOk at h2
 rw [Bool.and_eq_true, beq_iff_eq, beq_iff_eq] at h2
 exact h2
theorem W_one : W 1 = 4607182418800017408 := by decide +kernel
theorem W_ten : W 10 = 4621819117588971520 := by decide +kernel
end Go.Proofs.YtcjdideliifkhaaGreatDoor.Flo
