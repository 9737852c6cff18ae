import Derived.Maps.OwnOps
import Derived.Maps.OwnSet
import Derived.Shelf.LaysC
import Derived.Shelf.LaysM
import Derived.Shelf.Small.Bits
import Derived.Shelf.Strconv.Atoi
import Derived.Shelf.Strconv.AtoiAll
import Derived.Shelf.Strconv.AtoiErrFast
import Derived.Shelf.Strconv.AtoiFail
import Derived.Shelf.Strconv.AtoiInnerAll
import Derived.Shelf.Strconv.AtoiLong
import Derived.Shelf.Strconv.Clone
import Derived.Shelf.Strconv.ErrVarAll
import Derived.Shelf.Strconv.Itoa0
import Derived.Shelf.Strconv.Lower
import Derived.Shelf.Strconv.ParseInt10
import Derived.Shelf.Strconv.ParseIntEmpty
import Derived.Shelf.Strconv.ParseUint10
import Derived.Shelf.Strconv.ParseUint10Any
import Derived.Shelf.Strconv.ParseUint10Empty
import Derived.Shelf.Strconv.RangeError
import Derived.Shelf.Strconv.SyntaxError
import Derived.Shelf.Strconv.ToError
import Derived.Shelf.Strconv.ToErrorRange
import Derived.Shelf.Strings.FieldsFuncAny
import Derived.Shelf.Strings.FieldsFuncGrows
import Derived.Shelf.Strings.Prefix
import Derived.Shelf.Unicode.Decode
import Derived.Shelf.Unicode.DecodeAny
import Derived.Shelf.Unicode.DecodeSlow
import Derived.StringKeys
import Derived.Test.YtcjdideliifkhaaGreatDoorB27
set_option maxRecDepth 100000
set_option maxHeartbeats 16000000
namespace Go.Proofs.YtcjdideliifkhaaGreatDoor
open Go.RowKit Go.Maps Go.Proofs.YtcjdideliifkhaaGreatDoorW.PrintWords Go.Proofs.YtcjdideliifkhaaGreatDoorW.PrintLast Go.Proofs.YtcjdideliifkhaaGreatDoorW.PrintMore PFnCronTextAfterAnywhere
set_option linter.unusedVariables false
set_option linter.unusedSimpArgs false
def lookF : List (Txt × Int) → Txt → Option Int
 | [], _ => none
 | (k, v) :: l, key => if key = k then some v else lookF l key
theorem key9 : Keyed Tryz.prog 9 := string_keyed Tryz.underlying9
theorem keyOf9 (t : Txt) (h : t.length ≤ 4294967296) : keyOf Tryz.prog 9 (.string (ofL t)) = some (.string t) := Go.WideMaps.keyOf_string_mk Tryz.underlying9 (by rw [ofL_size]; unfold maxLen; omega)
def MapIs (w : World) (e : TypeId) (b : Nat) (l : List (Txt × Int)) : Prop :=
 ∃ D : DataW Unit, w.ownsMap Tryz.prog 9 (plainElem Tryz.prog e) b l.length D ∧
  ∀ key : Txt, (lookF l key = none → Maps.has D (.string key) = false) ∧ (∀ v, lookF l key = some v → Maps.has D (.string key) = true ∧ ∀ z, D.atKey (.string key) z = .lit (.int .u64 v))
theorem MapIs.below {w w' : World} {e : TypeId} {b : Nat} {l : List (Txt × Int)} (h : MapIs w e b l) (hb : Below w.heap.size w w') : MapIs w' e b l := by
 obtain ⟨D, h1, h2⟩ := h
 have hlt := h1.lt
 obtain ⟨es, clock, hh, F, hs, hD⟩ := h1
 exact ⟨D, ⟨es, clock, (hb.block b hlt).trans hh, F, hs, hD⟩, h2⟩
theorem MapIs.made (w : World) (e : TypeId) : MapIs (w.alloc (.map #[] 0)) e w.heap.size [] :=
 ⟨.map [], World.ownsMap_made w _ _ _, fun key => ⟨fun _ => rfl, fun v h => by cases h⟩⟩
theorem MapIs.put {w : World} {e T : TypeId} {b : Nat} {l : List (Txt × Int)} (h : MapIs w e b l) (he : Tryz.prog.underlying e = some (.int .u64)) (hT : Tryz.prog.underlying T = some (.map 9 e)) (hl : l.length < 1000) (k : Txt) (hk : k.length ≤ 4294967296) (v : Int) (hv : (Lit.int .u64 v).wf = true) :
  ∃ w', (Instr.mapUpdate T (.map (some b)) (.string (ofL k)) (.int .u64 v)).run Tryz.prog w = .ok () w' ∧ MapIs w' e b ((k, v) :: l) ∧ w.grownBy w' (some b) := by
 obtain ⟨D, h1, h2⟩ := h
 obtain ⟨w', hrun, h3, h4⟩ := h1.update key9 hT (by unfold maxLen; omega) (keyOf9 k hk) (plainElem_int he hv)
 refine ⟨w', hrun, ⟨_, h3, fun key => ?_⟩, h4⟩
 have hD : IsMap D := h1.isMap
 have hkl : WideAt.IsKeyLit (.string k) := trivial
 by_cases c : key = k
 ·subst c
  refine ⟨fun h => by simp [lookF] at h, fun u hu => ?_⟩
  simp [lookF] at hu
  subst hu
  exact ⟨has_put_same hD hkl _, fun z => atKey_put_same hD hkl _ z⟩
 ·have hne : Lit.string key ≠ Lit.string k := fun h => c (by injection h)
  refine ⟨fun h => ?_, fun u hu => ?_⟩
  ·simp only [lookF, if_neg c] at h
   rw [has_put_other hne]; exact (h2 key).1 h
  ·simp only [lookF, if_neg c] at hu
   exact ⟨(has_put_other hne _).trans ((h2 key).2 u hu).1, fun z => by rw [atKey_put_other hne]; exact ((h2 key).2 u hu).2 z⟩
def MapB (w0 w : World) (e : TypeId) (b : Nat) (l : List (Txt × Int)) : Prop := MapIs w e b l ∧ Below w0.heap.size w0 w ∧ w0.heap.size ≤ b
theorem wpList_mk {w0 : World} {ops : Array Oper} {rest : List Oper} {o : Oper} {a : Act} {Q : Exit → Act → World → Prop} {w : World} (hB : Below w0.heap.size w0 w) (e T : TypeId) (hg : o.guard = none) (ho : o.op = .makeMap T none)
  (h : ∀ b w1, MapB w0 w1 e b [] → wpList Tryz.prog ops Q rest (a.put o.dst (.map (some b))) w1) : wpList Tryz.prog ops Q (o :: rest) a w :=
 wpList_plain hg fun _ hK => by
  have hrun := run_makeMap (P := Tryz.prog) T w
  unfold Oper.wp
  simp [execOp, ho, hrun, Result.andThen]
  exact hK _ _ (h _ _ ⟨MapIs.made w e, below_alloc hB _, hB.size⟩)
theorem wpList_ins {w0 : World} {ops : Array Oper} {rest : List Oper} {o : Oper} {a : Act} {Q : Exit → Act → World → Prop} {w : World} {e T : TypeId} {b : Nat} {l : List (Txt × Int)} (hM : MapB w0 w e b l) (he : Tryz.prog.underlying e = some (.int .u64)) (hT : Tryz.prog.underlying T = some (.map 9 e)) (hl : l.length < 1000)
  (hg : o.guard = none) (m x y : Operand) (k : Txt) (v : Int) (ho : o.op = .insert T m x y) (hm : a.eval m = .map (some b)) (hx : a.eval x = .string (ofL k)) (hy : a.eval y = .int .u64 v) (hk : k.length ≤ 4294967296) (hv : (Lit.int .u64 v).wf = true)
  (h : ∀ w1, MapB w0 w1 e b ((k, v) :: l) → wpList Tryz.prog ops Q rest (a.put o.dst undef) w1) : wpList Tryz.prog ops Q (o :: rest) a w :=
 wpList_plain hg fun _ hK => by
  obtain ⟨w', hrun, h1, h2⟩ := hM.1.put he hT hl k hk v hv
  unfold Oper.wp
  simp [execOp, ho, hm, hx, hy, hrun, Result.andThen]
  exact hK _ _ (h w' ⟨h1, hM.2.1.grown h2 hM.2.1.size (fun j hj => by cases hj; exact hM.2.2), hM.2.2⟩)
theorem MapIs.look {w : World} {e T : TypeId} {b : Nat} {l : List (Txt × Int)} (h : MapIs w e b l) (he : Tryz.prog.underlying e = some (.int .u64)) (hz : (zeroValue e).run Tryz.prog w = .ok (.int .u64 0) w) (hT : Tryz.prog.underlying T = some (.map 9 e)) (k : Txt) (hk : k.length ≤ 4294967296) :
  (∀ v, lookF l k = some v → (Instr.lookup T (.map (some b)) (.string (ofL k)) true).run Tryz.prog w = .ok (.tuple #[.int .u64 v, .bool true]) w) ∧
  (lookF l k = none → ∃ c, (Instr.lookup T (.map (some b)) (.string (ofL k)) true).run Tryz.prog w = .ok (.tuple #[.int .u64 c, .bool false]) w) := by
 obtain ⟨D, h1, h2⟩ := h
 obtain ⟨u, ps, hrun, hv⟩ := h1.look_ok key9 hT hz (plainElem_int he (by decide)) (keyOf9 k hk)
 obtain ⟨c, rfl, hc, hwc⟩ := plainElem_int_inv he hv
 simp only [Prod.mk.injEq] at hc
 refine ⟨fun v hlv => ?_, fun hn => ⟨c, by rw [hrun, (h2 k).1 hn]⟩⟩
 obtain ⟨g1, g2⟩ := (h2 k).2 v hlv
 have := hc.1
 rw [g2] at this
 rw [hrun, g1]
 have hcv : v = c := by simpa using this
 rw [hcv]
def monthsF : List (Txt × Int) := [([100, 101, 99], 12), ([110, 111, 118], 11), ([111, 99, 116], 10), ([115, 101, 112], 9), ([97, 117, 103], 8), ([106, 117, 108], 7), ([106, 117, 110], 6), ([109, 97, 121], 5), ([97, 112, 114], 4), ([109, 97, 114], 3), ([102, 101, 98], 2), ([106, 97, 110], 1)]
def dowF : List (Txt × Int) := [([115, 97, 116], 6), ([102, 114, 105], 5), ([116, 104, 117], 4), ([119, 101, 100], 3), ([116, 117, 101], 2), ([109, 111, 110], 1), ([115, 117, 110], 0)]
def unitsF : List (Txt × Int) := [([104], 3600000000000), ([109], 60000000000), ([115], 1000000000), ([109, 115], 1000000), ([206, 188, 115], 1000), ([194, 181, 115], 1000), ([117, 115], 1000), ([110, 115], 1)]
theorem unitMap_c (w : World) : Calls Tryz.prog 120 #[] w fun e w' => ∃ b, e = .returned (.map (some b)) ∧ MapIs w' 57 b unitsF ∧ Below w.heap.size w w' := by
 go_enter Tryz.func120, Tryz.ntmps120
 go_wp2_with (first
  | (refine wpList_mk (w0 := w) (Below.refl _ _) 57 216 rfl rfl ?_; intro b w1 hM)
  | (refine wpList_ins hM Tryz.underlying57 Tryz.underlying216 (by decide) rfl _ _ _ _ _ rfl rfl rfl rfl (by decide) (by decide) ?_; intro w2 hM'; replace hM := hM'; clear hM'))
 go_ret
 exact ⟨b, rfl, hM.1, hM.2.1⟩
def BndAt (kind : Int) (w : World) (v : Value) : Prop :=
 ∃ m, v = .agg #[.int .u64 (low kind), .int .u64 (high kind), .map m] ∧ ((kind = 4 ∧ ∃ b, m = some b ∧ MapIs w 118 b monthsF) ∨ (kind = 5 ∧ ∃ b, m = some b ∧ MapIs w 118 b dowF) ∨ (kind ≠ 4 ∧ kind ≠ 5 ∧ m = none))
theorem BndAt.below {kind : Int} {w w' : World} {v : Value} (h : BndAt kind w v) (hb : Below w.heap.size w w') : BndAt kind w' v := by
 obtain ⟨m, rfl, h⟩ := h
 refine ⟨m, rfl, ?_⟩
 rcases h with ⟨h1, b, h2, h3⟩ | ⟨h1, b, h2, h3⟩ | h
 ·exact .inl ⟨h1, b, h2, h3.below hb⟩
 ·exact .inr (.inl ⟨h1, b, h2, h3.below hb⟩)
 ·exact .inr (.inr h)
theorem seconds_c (w : World) : Calls Tryz.prog 59 #[] w fun e w' => ∃ v, e = .returned v ∧ BndAt 0 w' v ∧ Below w.heap.size w w' := by
 go_enter Tryz.func59, Tryz.ntmps59
 go_wp2
 exact bodyPost_ret (v := .agg #[.int .u64 0, .int .u64 59, .map none]) (by simp [results, Tryz.results59, go_sem]) rfl ⟨_, rfl, ⟨none, rfl, .inr (.inr ⟨by decide, by decide, rfl⟩)⟩, (Below.refl _ _).alloc (Nat.le_refl _) _⟩
theorem minutes_c (w : World) : Calls Tryz.prog 60 #[] w fun e w' => ∃ v, e = .returned v ∧ BndAt 1 w' v ∧ Below w.heap.size w w' := by
 go_enter Tryz.func60, Tryz.ntmps60
 go_wp2
 exact bodyPost_ret (v := .agg #[.int .u64 0, .int .u64 59, .map none]) (by simp [results, Tryz.results60, go_sem]) rfl ⟨_, rfl, ⟨none, rfl, .inr (.inr ⟨by decide, by decide, rfl⟩)⟩, (Below.refl _ _).alloc (Nat.le_refl _) _⟩
theorem hours_c (w : World) : Calls Tryz.prog 61 #[] w fun e w' => ∃ v, e = .returned v ∧ BndAt 2 w' v ∧ Below w.heap.size w w' := by
 go_enter Tryz.func61, Tryz.ntmps61
 go_wp2
 exact bodyPost_ret (v := .agg #[.int .u64 0, .int .u64 23, .map none]) (by simp [results, Tryz.results61, go_sem]) rfl ⟨_, rfl, ⟨none, rfl, .inr (.inr ⟨by decide, by decide, rfl⟩)⟩, (Below.refl _ _).alloc (Nat.le_refl _) _⟩
theorem dom_c (w : World) : Calls Tryz.prog 62 #[] w fun e w' => ∃ v, e = .returned v ∧ BndAt 3 w' v ∧ Below w.heap.size w w' := by
 go_enter Tryz.func62, Tryz.ntmps62
 go_wp2
 exact bodyPost_ret (v := .agg #[.int .u64 1, .int .u64 31, .map none]) (by simp [results, Tryz.results62, go_sem]) rfl ⟨_, rfl, ⟨none, rfl, .inr (.inr ⟨by decide, by decide, rfl⟩)⟩, (Below.refl _ _).alloc (Nat.le_refl _) _⟩
theorem bnd_one (lo hi : Int) (m : Option Nat) : (#[Value.int .u64 lo, .int .u64 hi, .map m] : Array Value).all (·.oneCell') = true := all_oneCell_toArray fun v hv => by
 simp only [List.mem_cons, List.not_mem_nil, or_false] at hv
 rcases hv with rfl | rfl | rfl <;> rfl
theorem wpList_store_bnd {ops : Array Oper} {rest : List Oper} {op : Oper} {a : Act} {w0 w : World} {Q : Exit → Act → World → Prop} {b : Nat} {l : List (Txt × Int)} {lo hi : Int} (hgd : op.guard = none) (x y : Operand) (ho : op.op = .store 121 x y)
  (hx : a.eval x = .pointer (some ⟨w0.heap.size, 0, none⟩)) (hy : a.eval y = .agg #[.int .u64 lo, .int .u64 hi, .map (some b)]) (hM : MapB (w0.alloc (.cells #[.int .u64 0, .int .u64 0, .map none] 121)) w 118 b l)
  (h : ∀ w1, w1.heap[w0.heap.size]? = some (.cells #[.int .u64 lo, .int .u64 hi, .map (some b)] 121 (0, 0)) → MapIs w1 118 b l → Below w0.heap.size w0 w1 → wpList Tryz.prog ops Q rest (a.put op.dst undef) w1) : wpList Tryz.prog ops Q (op :: rest) a w := by
 obtain ⟨h1, h2, h3⟩ := hM
 have hbk : w.heap[w0.heap.size]? = some (.cells #[.int .u64 0, .int .u64 0, .map none] 121 (0, 0)) := blk_below (blk_new w0 _) h2
 have hne : b ≠ w0.heap.size := by simp at h3; omega
 have hpt : w.there w0.heap.size 0 3 := fun j hj => by
  rw [Nat.zero_add, blk_cell hbk j]
  refine ⟨?_, blk_frozen hbk j⟩
  have : j = 0 ∨ j = 1 ∨ j = 2 := by omega
  rcases this with rfl | rfl | rfl <;> rfl
 refine wpList_store_mid hgd 121 x y ho w0.heap.size 0 #[.int .u64 lo, .int .u64 hi, .map (some b)] hx hy hpt (by kernel_rfl) (bnd_one lo hi (some b)) (h _ ?_ ?_ ?_)
 ·have := setCells_heap w0.heap.size 121 [.int .u64 lo, .int .u64 hi, .map (some b)] 0 w [.int .u64 0, .int .u64 0, .map none] hbk rfl
  simpa using this
 ·obtain ⟨D, ⟨es, clock, hh, F, hs, hD⟩, g2⟩ := h1
  exact ⟨D, ⟨es, clock, (World.heap_setCells_other w w0.heap.size 0 _ (blk_lt hh) hne).trans hh, F, hs, hD⟩, g2⟩
 ·refine setCells_below w0.heap.size w0.heap.size (Nat.le_refl _) _ 0 w0 w ?_
  have hb1 : Below w0.heap.size w0 (w0.alloc (.cells #[.int .u64 0, .int .u64 0, .map none] 121)) := below_alloc (Below.refl _ _) _
  exact below_step hb1 h2
theorem months_c (w : World) : Calls Tryz.prog 63 #[] w fun e w' => ∃ v, e = .returned v ∧ BndAt 4 w' v ∧ Below w.heap.size w w' := by
 go_enter Tryz.func63, Tryz.ntmps63
 have hB0 : Below (w.alloc (.cells #[.int .u64 0, .int .u64 0, .map none] 121)).heap.size (w.alloc (.cells #[.int .u64 0, .int .u64 0, .map none] 121)) (w.alloc (.cells #[.int .u64 0, .int .u64 0, .map none] 121)) := Below.refl _ _
 go_wp2_with (first
  | (refine wpList_mk hB0 118 119 rfl rfl ?_; intro b w1 hM)
  | (refine wpList_ins hM Tryz.underlying118 Tryz.underlying119 (by decide) rfl _ _ _ _ _ rfl rfl rfl rfl (by decide) (by decide) ?_; intro w2 hM'; replace hM := hM'; clear hM')
  | (refine wpList_store_bnd (w0 := w) rfl _ _ rfl rfl rfl hM ?_; intro w3 g1 g2 g3))
 exact bodyPost_ret (results_cell_row rfl _ _ _ 121 _ _ _ rfl g1 Tryz.underlying121 rfl rfl) rfl ⟨_, rfl, ⟨some b, rfl, .inl ⟨rfl, b, rfl, g2⟩⟩, g3⟩
theorem dow_c (w : World) : Calls Tryz.prog 64 #[] w fun e w' => ∃ v, e = .returned v ∧ BndAt 5 w' v ∧ Below w.heap.size w w' := by
 go_enter Tryz.func64, Tryz.ntmps64
 have hB0 : Below (w.alloc (.cells #[.int .u64 0, .int .u64 0, .map none] 121)).heap.size (w.alloc (.cells #[.int .u64 0, .int .u64 0, .map none] 121)) (w.alloc (.cells #[.int .u64 0, .int .u64 0, .map none] 121)) := Below.refl _ _
 go_wp2_with (first
  | (refine wpList_mk hB0 118 119 rfl rfl ?_; intro b w1 hM)
  | (refine wpList_ins hM Tryz.underlying118 Tryz.underlying119 (by decide) rfl _ _ _ _ _ rfl rfl rfl rfl (by decide) (by decide) ?_; intro w2 hM'; replace hM := hM'; clear hM')
  | (refine wpList_store_bnd (w0 := w) rfl _ _ rfl rfl rfl hM ?_; intro w3 g1 g2 g3))
 exact bodyPost_ret (results_cell_row rfl _ _ _ 121 _ _ _ rfl g1 Tryz.underlying121 rfl rfl) rfl ⟨_, rfl, ⟨some b, rfl, .inr (.inl ⟨rfl, b, rfl, g2⟩)⟩, g3⟩
open Go.RowKit Go.Proofs.YtcjdideliifkhaaGreatDoorW.PrintWords Go.Proofs.YtcjdideliifkhaaGreatDoorW.PrintLast Go.Proofs.YtcjdideliifkhaaGreatDoorW.PrintMore PFnCronTextAfterAnywhere
def low8 (c : UInt8) : UInt8 := if 65 ≤ c.toNat ∧ c.toNat ≤ 90 then c + 32 else c
theorem low8_nat (c : UInt8) : (low8 c).toNat = if 65 ≤ c.toNat ∧ c.toNat ≤ 90 then c.toNat + 32 else c.toNat := by
 unfold low8
 split
 ·rename_i h
  rw [UInt8.toNat_add]; simp; omega
 ·rfl
def bcells (l : Txt) : List Value := l.map fun b => .int .u8 (b.toNat : Int)
theorem encode_ascii (c : UInt8) (h : c.toNat < 128) : Utf8.encode (c.toNat : Int) = ofL [c] := by
 have hv : Utf8.valid (c.toNat : Int) = true := by unfold Utf8.valid; simp; omega
 unfold Utf8.encode
 simp only [hv, if_true, Int.toNat_natCast]
 rw [if_pos h]
 simp [ofL]
theorem conv_rune (c : UInt8) (h : c.toNat < 128) (w : World) : (convert 21 9 (.int .i32 (c.toNat : Int))).run Tryz.prog w = .ok (.string (ofL [c])) w := by
 have h1 := Tryz.underlying21
 have h2 := Tryz.underlying9
 simp [convert, run_underlying h1, run_underlying h2, Conv.intToString, encode_ascii c h, Result.andThen]
theorem conv_nil (w : World) : (convert 257 9 (.slice none 0 0)).run Tryz.prog w = .ok (.string (ofL [])) w := by kernel_rfl
theorem foreign_at {s : ByteArray} (ha : foreign (toL s) = false) (i : Nat) (h : i < s.size) : s[i].toNat < 128 := by
 unfold foreign at ha
 rw [List.any_eq_false] at ha
 have := ha s[i] (by
  have h2 := byte_at s i h
  have : s[i] ∈ (toL s).drop i := by rw [h2]; exact List.mem_cons_self ..
  exact List.mem_of_mem_drop this)
 simpa using this
def LowL (s : ByteArray) (w : World) (v : Value) (wr : World) : Prop :=
 ∃ (v0 : Value) (pos : Nat), v0 = v ∧ pos ≤ s.size ∧ RowB w wr 5 v0 (bcells (((toL s).take pos).map low8)) ∧ ItAt wr w.heap.size s pos
theorem lower_c (s : ByteArray) (hs : s.size ≤ 4294967295) (ha : foreign (toL s) = false) (w : World) :
  Calls Tryz.prog 145 #[.string s] w fun e w' => e = .returned (.string (ofL ((toL s).map low8))) ∧ Below w.heap.size w w' := by
 go_enter Tryz.func145, Tryz.ntmps145
 go_wp2
 have hst := Lib.hid (show LowL s w (.slice none 0 0) (w.iter s 0) from ⟨_, 0, rfl, Nat.zero_le _, RowB.nil _ _ _ (below_alloc (Below.refl _ _) _), World.iter_heap w s 0⟩)
 go_loopw [3] (fun v wr => LowL s w v wr) (fun _ wr => s.size - wr.iterPos w.heap.size)
 case atStart => exact hst.out
 case round =>
  obtain ⟨v, pos, rfl, hp, hR, hit⟩ := hrel
  clear hst
  by_cases hlt : pos < s.size
  ·have hc := foreign_at ha pos hlt
   have hnx : ∀ ty, (Instr.next (.pointer (some ⟨w.heap.size, 0, none⟩)) true ty).run Tryz.prog wr = _ := fun ty => Lib.run_next_ascii_at wr w.heap.size s pos ty hit hlt hc
   have hR2 := hR.moved hit (Nat.le_refl _) (pos + 1)
   have hit2 := ItAt.moved hit (pos + 1)
   have htk := take_at s pos hlt
   have hlen : (bcells (((toL s).take pos).map low8)).length ≤ 4294967296 := by unfold bcells; simp; omega
   have HN := Lib.hid (show ∀ (v' : Value) (w' : World), RowB w w' 5 v' (bcells (((toL s).take pos).map low8) ++ [.int .u8 ((low8 s[pos]).toNat : Int)]) → ItAt w' w.heap.size s (pos + 1) → v' ≠ .slice none 0 0 → LowL s w v' w' from fun v' w' h1 h2 h3 =>
    ⟨v', pos + 1, rfl, hlt, by rw [htk]; simpa [bcells] using h1, h2⟩)
   have hmes := Lib.hid (show ∀ w' : World, ItAt w' w.heap.size s (pos + 1) → s.size - w'.iterPos w.heap.size < s.size - wr.iterPos w.heap.size from fun w' h => by
    have h1 : w'.iterPos w.heap.size = pos + 1 := by unfold World.iterPos; rw [h]
    have h2 : wr.iterPos w.heap.size = pos := by unfold World.iterPos; rw [hit]
    rw [h1, h2]; omega)
   have hl8 := low8_nat s[pos]
   have HR2 := Lib.hid hR2
   have HI2 := Lib.hid hit2
   clear hR2 hit2 htk hR hit
   generalize wr.iterAt w.heap.size s (pos + 1) = W at *
   generalize bcells (((toL s).take pos).map low8) = us at *
   have hcr := conv_rune s[pos] hc
   generalize s[pos] = c at *
   by_cases h65 : 65 ≤ c.toNat
   ·by_cases h90 : c.toNat ≤ 90
    ·have hd : decide ((65 : Int) ≤ (c.toNat : Int)) = true := by simp; omega
     have hd2 : decide ((c.toNat : Int) ≤ 90) = true := by simp; omega
     rw [if_pos ⟨h65, h90⟩] at hl8
     have hl9 : ((low8 c).toNat : Int) = (c.toNat : Int) + 32 := by rw [hl8]; simp
     rw [hl9] at HN
     clear hl8 hl9
     have hR2 := HR2.out
     go_wp2_with (refine wpList_app1 elem5 (hR2.alloc (.cells #[.int .u8 ((c.toNat : Int) - 65 + 97)] 5)) rfl _ _ rfl rfl W.heap.size 1 (.int .u8 ((c.toNat : Int) - 65 + 97)) rfl (blk_cell (blk_new _ _) 0) rfl hlen ?_; intro v' w' h1 h2 h3)
     rw [show (c.toNat : Int) - 65 + 97 = (c.toNat : Int) + 32 by omega] at h1
     exact ⟨HN.out v' w' h1 (h2 _ _ _ (HI2.out.alloc _)) h3, hmes.out _ (h2 _ _ _ (HI2.out.alloc _))⟩
    ·have hd : decide ((65 : Int) ≤ (c.toNat : Int)) = true := by simp; omega
     have hd2 : decide ((c.toNat : Int) ≤ 90) = false := by simp; omega
     rw [if_neg (by omega)] at hl8
     rw [hl8] at HN
     have h304 : ((c.toNat : Int) == 304) = false := by simp; omega
     have h8490 : ((c.toNat : Int) == 8490) = false := by simp; omega
     clear hl8
     have hR2 := HR2.out
     go_wp2_with (refine wpList_apps hR2 rfl _ _ rfl rfl (ofL [c]) rfl (show 0 < 1 by decide) (show 1 ≤ 16 by decide) hlen ?_; intro v' w' h1 h2 h3)
     exact ⟨HN.out v' w' h1 (h2 _ _ _ HI2.out) h3, hmes.out _ (h2 _ _ _ HI2.out)⟩
   ·have hd : decide ((65 : Int) ≤ (c.toNat : Int)) = false := by simp; omega
    rw [if_neg (by omega)] at hl8
    rw [hl8] at HN
    have h304 : ((c.toNat : Int) == 304) = false := by simp; omega
    have h8490 : ((c.toNat : Int) == 8490) = false := by simp; omega
    clear hl8
    have hR2 := HR2.out
    go_wp2_with (refine wpList_apps hR2 rfl _ _ rfl rfl (ofL [c]) rfl (show 0 < 1 by decide) (show 1 ≤ 16 by decide) hlen ?_; intro v' w' h1 h2 h3)
    exact ⟨HN.out v' w' h1 (h2 _ _ _ HI2.out) h3, hmes.out _ (h2 _ _ _ HI2.out)⟩
  ·have hps : pos = s.size := by omega
   subst hps
   have hnx : ∀ ty, (Instr.next (.pointer (some ⟨w.heap.size, 0, none⟩)) true ty).run Tryz.prog wr = _ := fun ty => Lib.run_next_end_at wr w.heap.size s s.size ty hit hlt
   rw [List.take_of_length_le (by rw [toL_len]; exact Nat.le_refl _)] at hR
   have hb := hR.below
   have hcv : (convert 257 9 v).run Tryz.prog wr = .ok (.string (ofL ((toL s).map low8))) wr := by
    obtain ⟨⟨hl, h1 | ⟨g, cap, cur, rfl, hg, hc, hn, hcap, hsz, ht⟩⟩, _⟩ := hR
    ·have h0 : (toL s).map low8 = [] := by
      have := h1.2
      unfold bcells at this
      rw [List.length_map] at this
      exact List.eq_nil_of_length_eq_zero this
     rw [h0, h1.1]
     exact conv_nil wr
    ·have hbl : (bcells ((toL s).map low8)).length = ((toL s).map low8).length := by unfold bcells; simp
     rw [hbl] at ht ⊢
     refine run_convert_bytes_back wr 257 9 5 ⟨g, 0, none⟩ cap _ Tryz.underlying257 Tryz.underlying5 Tryz.underlying9 (fun j hj => ?_)
     rw [add_plain, blk_cell hc j]
     have h2 : (cur.toList.take (((toL s).map low8).length * 1))[j]? = some (.int .u8 ((((toL s).map low8)[j]).toNat : Int)) := by
      rw [ht]; unfold bcells; rw [List.getElem?_map, List.getElem?_eq_getElem hj]; rfl
     rw [List.getElem?_take] at h2
     split at h2
     ·simpa using h2
     ·cases h2
   clear hR hit hp
   go_wp2
   go_ret
   exact ⟨rfl, hb⟩
end Go.Proofs.YtcjdideliifkhaaGreatDoor
namespace Go.Proofs
open Go.Shelf
def Tryz.laysC172_ren : Go.Shelf.Ren := ⟨fun | 172 => 146 | 244 => 155 | 245 => 156 | 247 => 161 | 279 => 162 | 280 => 163 | 281 => 164 | 282 => 165 | 287 => 167 | 316 => 168 | 171 => 169 | 205 => 49 | 321 => 170 | 322 => 171 | 243 => 172 | 246 => 173 | 283 => 174 | 284 => 175 | 285 => 176 | 286 => 177 | 129 => 132 | 317 => 178 | 318 => 179 | 319 => 180 | 320 => 181 | 337 => 182 | 338 => 183 | n => n, fun | 9 => 9 | 3 => 3 | 75 => 84 | 76 => 247 | 4 => 4 | 5 => 5 | 167 => 262 | 37 => 257 | 0 => 0 | 85 => 263 | 2 => 2 | 168 => 265 | 53 => 57 | 175 => 122 | 46 => 118 | 210 => 271 | 127 => 272 | 145 => 173 | 143 => 171 | 21 => 21 | 171 => 274 | 173 => 276 | 212 => 279 | 51 => 229 | 20 => 20 | 213 => 280 | 232 => 281 | 233 => 282 | 80 => 283 | n => n, fun | 15 => 4 | 16 => 5 | 17 => 6 | 18 => 7 | 19 => 8 | n => n⟩
theorem Tryz.laysC172 : Go.Proofs.LaysC.n172 Tryz.prog Tryz.laysC172_ren := {
 mixed := by kernel_rfl
 f129 := Tryz.func132.trans (congrArg some (by kernel_rfl))
 f171 := Tryz.func169.trans (congrArg some (by kernel_rfl))
 f172 := Tryz.func146.trans (congrArg some (by kernel_rfl))
 f205 := Tryz.func49.trans (congrArg some (by kernel_rfl))
 f243 := Tryz.func172.trans (congrArg some (by kernel_rfl))
 f244 := Tryz.func155.trans (congrArg some (by kernel_rfl))
 f245 := Tryz.func156.trans (congrArg some (by kernel_rfl))
 f246 := Tryz.func173.trans (congrArg some (by kernel_rfl))
 f247 := Tryz.func161.trans (congrArg some (by kernel_rfl))
 f279 := Tryz.func162.trans (congrArg some (by kernel_rfl))
 f280 := Tryz.func163.trans (congrArg some (by kernel_rfl))
 f281 := Tryz.func164.trans (congrArg some (by kernel_rfl))
 f282 := Tryz.func165.trans (congrArg some (by kernel_rfl))
 f283 := Tryz.func174.trans (congrArg some (by kernel_rfl))
 f284 := Tryz.func175.trans (congrArg some (by kernel_rfl))
 f285 := Tryz.func176.trans (congrArg some (by kernel_rfl))
 f286 := Tryz.func177.trans (congrArg some (by kernel_rfl))
 f287 := Tryz.func167.trans (congrArg some (by kernel_rfl))
 f316 := Tryz.func168.trans (congrArg some (by kernel_rfl))
 f317 := Tryz.func178.trans (congrArg some (by kernel_rfl))
 f318 := Tryz.func179.trans (congrArg some (by kernel_rfl))
 f319 := Tryz.func180.trans (congrArg some (by kernel_rfl))
 f320 := Tryz.func181.trans (congrArg some (by kernel_rfl))
 f321 := Tryz.func170.trans (congrArg some (by kernel_rfl))
 f322 := Tryz.func171.trans (congrArg some (by kernel_rfl))
 f337 := Tryz.func182.trans (congrArg some (by kernel_rfl))
 f338 := Tryz.func183.trans (congrArg some (by kernel_rfl))
 t0 := Tryz.underlying0
 a0 := Tryz.isAgg0
 z0 := Tryz.sizeOf0
 v0 := Tryz.zeroValue0
 t2 := Tryz.underlying2
 a2 := Tryz.isAgg2
 z2 := Tryz.sizeOf2
 v2 := Tryz.zeroValue2
 t3 := Tryz.underlying3
 a3 := Tryz.isAgg3
 z3 := Tryz.sizeOf3
 v3 := Tryz.zeroValue3
 t4 := Tryz.underlying4
 a4 := Tryz.isAgg4
 z4 := Tryz.sizeOf4
 v4 := Tryz.zeroValue4
 t5 := Tryz.underlying5
 a5 := Tryz.isAgg5
 z5 := Tryz.sizeOf5
 v5 := Tryz.zeroValue5
 t9 := Tryz.underlying9
 a9 := Tryz.isAgg9
 z9 := Tryz.sizeOf9
 v9 := Tryz.zeroValue9
 t20 := Tryz.underlying20
 a20 := Tryz.isAgg20
 z20 := Tryz.sizeOf20
 v20 := Tryz.zeroValue20
 t21 := Tryz.underlying21
 a21 := Tryz.isAgg21
 z21 := Tryz.sizeOf21
 v21 := Tryz.zeroValue21
 t37 := Tryz.underlying257
 a37 := Tryz.isAgg257
 z37 := Tryz.sizeOf257
 v37 := Tryz.zeroValue257
 t46 := Tryz.underlying118
 a46 := Tryz.isAgg118
 z46 := Tryz.sizeOf118
 v46 := Tryz.zeroValue118
 t51 := Tryz.underlying229
 a51 := Tryz.isAgg229
 z51 := Tryz.sizeOf229
 v51 := Tryz.zeroValue229
 t53 := Tryz.underlying57
 a53 := Tryz.isAgg57
 z53 := Tryz.sizeOf57
 v53 := Tryz.zeroValue57
 t75 := Tryz.underlying84
 a75 := Tryz.isAgg84
 z75 := Tryz.sizeOf84
 v75 := Tryz.zeroValue84
 t76 := Tryz.underlying247
 a76 := Tryz.isAgg247
 z76 := Tryz.sizeOf247
 v76 := Tryz.zeroValue247
 t85 := Tryz.underlying263
 a85 := Tryz.isAgg263
 z85 := Tryz.sizeOf263
 v85 := Tryz.zeroValue263
 t127 := Tryz.underlying272
 a127 := Tryz.isAgg272
 z127 := Tryz.sizeOf272
 v127 := Tryz.zeroValue272
 t143 := Tryz.underlying171
 a143 := Tryz.isAgg171
 z143 := Tryz.sizeOf171
 v143 := Tryz.zeroValue171
 t145 := Tryz.underlying173
 a145 := Tryz.isAgg173
 z145 := Tryz.sizeOf173
 v145 := Tryz.zeroValue173
 t167 := Tryz.underlying262
 a167 := Tryz.isAgg262
 z167 := Tryz.sizeOf262
 v167 := Tryz.zeroValue262
 t168 := Tryz.underlying265
 a168 := Tryz.isAgg265
 z168 := Tryz.sizeOf265
 v168 := Tryz.zeroValue265
 t171 := Tryz.underlying274
 a171 := Tryz.isAgg274
 z171 := Tryz.sizeOf274
 v171 := Tryz.zeroValue274
 t173 := Tryz.underlying276
 a173 := Tryz.isAgg276
 z173 := Tryz.sizeOf276
 v173 := Tryz.zeroValue276
 t175 := Tryz.underlying122
 a175 := Tryz.isAgg122
 z175 := Tryz.sizeOf122
 v175 := Tryz.zeroValue122
 t210 := Tryz.underlying271
 a210 := Tryz.isAgg271
 z210 := Tryz.sizeOf271
 v210 := Tryz.zeroValue271
 t212 := Tryz.underlying279
 a212 := Tryz.isAgg279
 z212 := Tryz.sizeOf279
 v212 := Tryz.zeroValue279
 t213 := Tryz.underlying280
 a213 := Tryz.isAgg280
 z213 := Tryz.sizeOf280
 t232 := Tryz.underlying281
 a232 := Tryz.isAgg281
 z232 := Tryz.sizeOf281
 v232 := Tryz.zeroValue281
 t233 := Tryz.underlying282
 a233 := Tryz.isAgg282
 z233 := Tryz.sizeOf282
 v233 := Tryz.zeroValue282
 g15 := by kernel_rfl
 g16 := by kernel_rfl
 g17 := by kernel_rfl
 g18 := by kernel_rfl
 g19 := by kernel_rfl
 t80 := Tryz.underlying283
 a80 := Tryz.isAgg283
 z80 := Tryz.sizeOf283
 v80 := Tryz.zeroValue283
 i0 := by kernel_rfl
 i2 := by kernel_rfl
 i3 := by kernel_rfl
 i4 := by kernel_rfl
 i5 := by kernel_rfl
 i9 := by kernel_rfl
 i20 := by kernel_rfl
 i21 := by kernel_rfl
 i37 := by kernel_rfl
 i46 := by kernel_rfl
 i51 := by kernel_rfl
 i53 := by kernel_rfl
 i75 := by kernel_rfl
 i76 := by kernel_rfl
 i80 := by kernel_rfl
 i85 := by kernel_rfl
 i127 := by kernel_rfl
 i143 := by kernel_rfl
 i145 := by kernel_rfl
 i167 := by kernel_rfl
 i168 := by kernel_rfl
 i171 := by kernel_rfl
 i173 := by kernel_rfl
 i175 := by kernel_rfl
 i210 := by kernel_rfl
 i212 := by kernel_rfl
 i232 := by kernel_rfl
 i233 := by kernel_rfl
 m15 := by kernel_rfl
 m16 := by kernel_rfl
 m17 := by kernel_rfl
 m18 := by kernel_rfl
 m19 := by kernel_rfl
 c0 := by kernel_rfl
 c2 := by kernel_rfl
 c3 := by kernel_rfl
 c4 := by kernel_rfl
 c5 := by kernel_rfl
 c9 := by kernel_rfl
 c20 := by kernel_rfl
 c21 := by kernel_rfl
 c37 := by kernel_rfl
 c46 := by kernel_rfl
 c51 := by kernel_rfl
 c53 := by kernel_rfl
 c75 := by kernel_rfl
 c76 := by kernel_rfl
 c80 := by kernel_rfl
 c85 := by kernel_rfl
 c127 := by kernel_rfl
 c143 := by kernel_rfl
 c145 := by kernel_rfl
 c167 := by kernel_rfl
 c168 := by kernel_rfl
 c171 := by kernel_rfl
 c173 := by kernel_rfl
 c175 := by kernel_rfl
 c210 := by kernel_rfl
 c212 := by kernel_rfl
 c213 := by kernel_rfl
 c232 := by kernel_rfl
 c233 := by kernel_rfl }
open Go.RowKit in
theorem Tryz.strconv_Atoi_ok (s : ByteArray) (hmax : s.size ≤ 9223372036854775806) (v : Int) (h : Lib.atoiAll s.data.toList = .ok v) (w : World) :
  Calls Tryz.prog 146 #[.string s] w fun e w' => e = .returned (.tuple #[.int .i64 v, .nilIface]) ∧ (w' = w ∨ ∃ t, w' = Lib.bytesWorld w 5 t) := Any.strconv_Atoi_ok Tryz.laysC172 s hmax v h w
def Tryz.lays197_ren : Go.Shelf.Ren := ⟨fun | 197 => 87 | 260 => 116 | n => n, fun | 9 => 9 | 21 => 21 | 3 => 3 | 4 => 4 | 5 => 5 | 105 => 174 | 119 => 242 | 0 => 0 | 46 => 118 | 139 => 245 | 138 => 244 | n => n, fun | 3 => 1 | 4 => 2 | n => n⟩
theorem Tryz.lays197 : Go.Proofs.Lays.n197 Tryz.prog Tryz.lays197_ren := {
 mixed := by kernel_rfl
 f197 := Tryz.func87.trans (congrArg some (by kernel_rfl))
 f260 := Tryz.func116.trans (congrArg some (by kernel_rfl))
 t0 := Tryz.underlying0
 a0 := Tryz.isAgg0
 z0 := Tryz.sizeOf0
 v0 := Tryz.zeroValue0
 t3 := Tryz.underlying3
 a3 := Tryz.isAgg3
 z3 := Tryz.sizeOf3
 v3 := Tryz.zeroValue3
 t4 := Tryz.underlying4
 a4 := Tryz.isAgg4
 z4 := Tryz.sizeOf4
 v4 := Tryz.zeroValue4
 t5 := Tryz.underlying5
 a5 := Tryz.isAgg5
 z5 := Tryz.sizeOf5
 v5 := Tryz.zeroValue5
 t9 := Tryz.underlying9
 a9 := Tryz.isAgg9
 z9 := Tryz.sizeOf9
 v9 := Tryz.zeroValue9
 t21 := Tryz.underlying21
 a21 := Tryz.isAgg21
 z21 := Tryz.sizeOf21
 v21 := Tryz.zeroValue21
 t46 := Tryz.underlying118
 a46 := Tryz.isAgg118
 z46 := Tryz.sizeOf118
 v46 := Tryz.zeroValue118
 t105 := Tryz.underlying174
 a105 := Tryz.isAgg174
 z105 := Tryz.sizeOf174
 v105 := Tryz.zeroValue174
 t119 := Tryz.underlying242
 a119 := Tryz.isAgg242
 z119 := Tryz.sizeOf242
 t138 := Tryz.underlying244
 a138 := Tryz.isAgg244
 z138 := Tryz.sizeOf244
 v138 := Tryz.zeroValue244
 t139 := Tryz.underlying245
 a139 := Tryz.isAgg245
 z139 := Tryz.sizeOf245
 v139 := Tryz.zeroValue245
 g3 := by kernel_rfl
 g4 := by kernel_rfl }
open Go.RowKit Go.Lib in
theorem Tryz.utf8_DecodeRuneInString_ascii (s : ByteArray) (x : UInt8) (w : World) (h0 : s.data.toList[0]? = some x) (hx : x.toNat < 128) :
  Calls Tryz.prog 87 #[.string s] w fun e w' => e = .returned (.tuple #[.int .i32 x.toNat, .int .i64 1]) ∧ w' = w := Any.utf8_DecodeRuneInString_ascii Tryz.lays197 s x w h0 hx
def Tryz.lays229_ren : Go.Shelf.Ren := ⟨fun | 229 => 94 | n => n, fun | 9 => 9 | 40 => 176 | 31 => 50 | 152 => 218 | 3 => 3 | 0 => 0 | 4 => 4 | 21 => 21 | 154 => 220 | n => n, fun | n => n⟩
theorem Tryz.lays229 : Go.Proofs.Lays.n229 Tryz.prog Tryz.lays229_ren := {
 mixed := by kernel_rfl
 f229 := Tryz.func94.trans (congrArg some (by kernel_rfl))
 t0 := Tryz.underlying0
 a0 := Tryz.isAgg0
 z0 := Tryz.sizeOf0
 v0 := Tryz.zeroValue0
 t3 := Tryz.underlying3
 a3 := Tryz.isAgg3
 z3 := Tryz.sizeOf3
 v3 := Tryz.zeroValue3
 t4 := Tryz.underlying4
 a4 := Tryz.isAgg4
 z4 := Tryz.sizeOf4
 v4 := Tryz.zeroValue4
 t9 := Tryz.underlying9
 a9 := Tryz.isAgg9
 z9 := Tryz.sizeOf9
 v9 := Tryz.zeroValue9
 t21 := Tryz.underlying21
 a21 := Tryz.isAgg21
 z21 := Tryz.sizeOf21
 v21 := Tryz.zeroValue21
 t31 := Tryz.underlying50
 a31 := Tryz.isAgg50
 z31 := Tryz.sizeOf50
 v31 := Tryz.zeroValue50
 t40 := Tryz.underlying176
 a40 := Tryz.isAgg176
 z40 := Tryz.sizeOf176
 v40 := Tryz.zeroValue176
 t152 := Tryz.underlying218
 a152 := Tryz.isAgg218
 z152 := Tryz.sizeOf218
 v152 := Tryz.zeroValue218
 t154 := Tryz.underlying220
 a154 := Tryz.isAgg220
 z154 := Tryz.sizeOf220
 v154 := Tryz.zeroValue220 }
open Go.RowKit Go.Lib in
theorem Tryz.strings_FieldsFunc (g : Nat) (lb : Array Value) (eg : ∀ args w, (callFunc g args).run Tryz.prog w = .ok (.enter g args) w) (p : Nat → Bool) (s : ByteArray) (w : World) (hs : s.size ≤ 4294967296) (hp : PredAt Tryz.prog g lb encR p w) :
  Calls Tryz.prog 94 #[.string s, .func (.func g) #[] lb] w fun e w' => ∃ A, e = .returned (.slice (some ⟨A, 0, none⟩) (Lib.goFieldsP p s).length (Lib.goFieldsP p s).length) ∧ w.heap.size ≤ A ∧
   w'.ownsRow w.heap.size 9 1 (.slice (some ⟨A, 0, none⟩) (Lib.goFieldsP p s).length (Lib.goFieldsP p s).length) (Lib.goFieldsP p s).length ((Lib.goFieldsP p s).map Value.string) ∧ Below w.heap.size w w' := Any.strings_FieldsFunc Tryz.lays229 g lb eg p s w hs hp (by kernel_rfl) (by kernel_rfl)
end Go.Proofs
