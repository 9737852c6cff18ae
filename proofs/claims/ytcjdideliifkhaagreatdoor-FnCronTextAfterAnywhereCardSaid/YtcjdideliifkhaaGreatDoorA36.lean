import Derived.Laws.IdiomStrings
import Derived.Lib.OthersKept
import Derived.Maps.OwnOps
import Derived.Maps.OwnSet
import Derived.StringKeys
import Derived.Test.YtcjdideliifkhaaGreatDoorA35
set_option maxRecDepth 100000
set_option maxHeartbeats 16000000
namespace Go.Proofs.YtcjdideliifkhaaGreatDoor
open Go.RowKit Go.Maps Go.Proofs.YtcjdideliifkhaaGreatDoorW.PrintWords Go.Proofs.YtcjdideliifkhaaGreatDoorW.PrintLast Go.Proofs.YtcjdideliifkhaaGreatDoorW.PrintMore PFnCronTextAfterAnywhere
set_option linter.unusedVariables false
set_option linter.unusedSimpArgs false
def lookF : List (Txt × Int) → Txt → Option Int
 | [], _ => none
 | (k, v) :: l, key => if key = k then some v else lookF l key
theorem key9 : Keyed Tryz.prog 9 := string_keyed Tryz.underlying9
theorem keyOf9 (t : Txt) (h : t.length ≤ 4294967296) : keyOf Tryz.prog 9 (.string (ofL t)) = some (.string t) := Go.WideMaps.keyOf_string_mk Tryz.underlying9 (by rw [ofL_size]; unfold maxLen; omega)
def MapIs (w : World) (e : TypeId) (b : Nat) (l : List (Txt × Int)) : Prop :=
 ∃ D : DataW Unit, w.ownsMap Tryz.prog 9 (plainElem Tryz.prog e) b l.length D ∧
  ∀ key : Txt, (lookF l key = none → Maps.has D (.string key) = false) ∧ (∀ v, lookF l key = some v → Maps.has D (.string key) = true ∧ ∀ z, D.atKey (.string key) z = .lit (.int .u64 v))
theorem MapIs.below {w w' : World} {e : TypeId} {b : Nat} {l : List (Txt × Int)} (h : MapIs w e b l) (hb : Below w.heap.size w w') : MapIs w' e b l := by
 obtain ⟨D, h1, h2⟩ := h
 have hlt := h1.lt
 obtain ⟨es, clock, hh, F, hs, hD⟩ := h1
 exact ⟨D, ⟨es, clock, (hb.block b hlt).trans hh, F, hs, hD⟩, h2⟩
theorem MapIs.made (w : World) (e : TypeId) : MapIs (w.alloc (.map #[] 0)) e w.heap.size [] :=
 ⟨.map [], World.ownsMap_made w _ _ _, fun key => ⟨fun _ => rfl, fun v h => by cases h⟩⟩
theorem MapIs.put {w : World} {e T : TypeId} {b : Nat} {l : List (Txt × Int)} (h : MapIs w e b l) (he : Tryz.prog.underlying e = some (.int .u64)) (hT : Tryz.prog.underlying T = some (.map 9 e)) (hl : l.length < 1000) (k : Txt) (hk : k.length ≤ 4294967296) (v : Int) (hv : (Lit.int .u64 v).wf = true) :
  ∃ w', (Instr.mapUpdate T (.map (some b)) (.string (ofL k)) (.int .u64 v)).run Tryz.prog w = .ok () w' ∧ MapIs w' e b ((k, v) :: l) ∧ w.grownBy w' (some b) := by
 obtain ⟨D, h1, h2⟩ := h
 obtain ⟨w', hrun, h3, h4⟩ := h1.update key9 hT (by unfold maxLen; omega) (keyOf9 k hk) (plainElem_int he hv)
 refine ⟨w', hrun, ⟨_, h3, fun key => ?_⟩, h4⟩
 have hD : IsMap D := h1.isMap
 have hkl : WideAt.IsKeyLit (.string k) := trivial
 by_cases c : key = k
 ·subst c
  refine ⟨fun h => by simp [lookF] at h, fun u hu => ?_⟩
  simp [lookF] at hu
  subst hu
  exact ⟨has_put_same hD hkl _, fun z => atKey_put_same hD hkl _ z⟩
 ·have hne : Lit.string key ≠ Lit.string k := fun h => c (by injection h)
  refine ⟨fun h => ?_, fun u hu => ?_⟩
  ·simp only [lookF, if_neg c] at h
   rw [has_put_other hne]; exact (h2 key).1 h
  ·simp only [lookF, if_neg c] at hu
   exact ⟨(has_put_other hne _).trans ((h2 key).2 u hu).1, fun z => by rw [atKey_put_other hne]; exact ((h2 key).2 u hu).2 z⟩
def MapB (w0 w : World) (e : TypeId) (b : Nat) (l : List (Txt × Int)) : Prop := MapIs w e b l ∧ Below w0.heap.size w0 w ∧ w0.heap.size ≤ b
theorem wpList_mk {w0 : World} {ops : Array Oper} {rest : List Oper} {o : Oper} {a : Act} {Q : Exit → Act → World → Prop} {w : World} (hB : Below w0.heap.size w0 w) (e T : TypeId) (hg : o.guard = none) (ho : o.op = .makeMap T none)
  (h : ∀ b w1, MapB w0 w1 e b [] → wpList Tryz.prog ops Q rest (a.put o.dst (.map (some b))) w1) : wpList Tryz.prog ops Q (o :: rest) a w :=
 wpList_plain hg fun _ hK => by
  have hrun := run_makeMap (P := Tryz.prog) T w
  unfold Oper.wp
  simp [execOp, ho, hrun, Result.andThen]
  exact hK _ _ (h _ _ ⟨MapIs.made w e, below_alloc hB _, hB.size⟩)
theorem wpList_ins {w0 : World} {ops : Array Oper} {rest : List Oper} {o : Oper} {a : Act} {Q : Exit → Act → World → Prop} {w : World} {e T : TypeId} {b : Nat} {l : List (Txt × Int)} (hM : MapB w0 w e b l) (he : Tryz.prog.underlying e = some (.int .u64)) (hT : Tryz.prog.underlying T = some (.map 9 e)) (hl : l.length < 1000)
  (hg : o.guard = none) (m x y : Operand) (k : Txt) (v : Int) (ho : o.op = .insert T m x y) (hm : a.eval m = .map (some b)) (hx : a.eval x = .string (ofL k)) (hy : a.eval y = .int .u64 v) (hk : k.length ≤ 4294967296) (hv : (Lit.int .u64 v).wf = true)
  (h : ∀ w1, MapB w0 w1 e b ((k, v) :: l) → wpList Tryz.prog ops Q rest (a.put o.dst undef) w1) : wpList Tryz.prog ops Q (o :: rest) a w :=
 wpList_plain hg fun _ hK => by
  obtain ⟨w', hrun, h1, h2⟩ := hM.1.put he hT hl k hk v hv
  unfold Oper.wp
  simp [execOp, ho, hm, hx, hy, hrun, Result.andThen]
  exact hK _ _ (h w' ⟨h1, hM.2.1.grown h2 hM.2.1.size (fun j hj => by cases hj; exact hM.2.2), hM.2.2⟩)
theorem MapIs.look {w : World} {e T : TypeId} {b : Nat} {l : List (Txt × Int)} (h : MapIs w e b l) (he : Tryz.prog.underlying e = some (.int .u64)) (hz : (zeroValue e).run Tryz.prog w = .ok (.int .u64 0) w) (hT : Tryz.prog.underlying T = some (.map 9 e)) (k : Txt) (hk : k.length ≤ 4294967296) :
  (∀ v, lookF l k = some v → (Instr.lookup T (.map (some b)) (.string (ofL k)) true).run Tryz.prog w = .ok (.tuple #[.int .u64 v, .bool true]) w) ∧
  (lookF l k = none → ∃ c, (Instr.lookup T (.map (some b)) (.string (ofL k)) true).run Tryz.prog w = .ok (.tuple #[.int .u64 c, .bool false]) w) := by
 obtain ⟨D, h1, h2⟩ := h
 obtain ⟨u, ps, hrun, hv⟩ := h1.look_ok key9 hT hz (plainElem_int he (by decide)) (keyOf9 k hk)
 obtain ⟨c, rfl, hc, hwc⟩ := plainElem_int_inv he hv
 simp only [Prod.mk.injEq] at hc
 refine ⟨fun v hlv => ?_, fun hn => ⟨c, by rw [hrun, (h2 k).1 hn]⟩⟩
 obtain ⟨g1, g2⟩ := (h2 k).2 v hlv
 have := hc.1
 rw [g2] at this
 rw [hrun, g1]
 have hcv : v = c := by simpa using this
 rw [hcv]
def monthsF : List (Txt × Int) := [([100, 101, 99], 12), ([110, 111, 118], 11), ([111, 99, 116], 10), ([115, 101, 112], 9), ([97, 117, 103], 8), ([106, 117, 108], 7), ([106, 117, 110], 6), ([109, 97, 121], 5), ([97, 112, 114], 4), ([109, 97, 114], 3), ([102, 101, 98], 2), ([106, 97, 110], 1)]
def dowF : List (Txt × Int) := [([115, 97, 116], 6), ([102, 114, 105], 5), ([116, 104, 117], 4), ([119, 101, 100], 3), ([116, 117, 101], 2), ([109, 111, 110], 1), ([115, 117, 110], 0)]
def unitsF : List (Txt × Int) := [([104], 3600000000000), ([109], 60000000000), ([115], 1000000000), ([109, 115], 1000000), ([206, 188, 115], 1000), ([194, 181, 115], 1000), ([117, 115], 1000), ([110, 115], 1)]
theorem unitMap_c (w : World) : Calls Tryz.prog 120 #[] w fun e w' => ∃ b, e = .returned (.map (some b)) ∧ MapIs w' 57 b unitsF ∧ Below w.heap.size w w' := by
 go_enter Tryz.func120, Tryz.ntmps120
 go_wp2_with (first
  | (refine wpList_mk (w0 := w) (Below.refl _ _) 57 216 rfl rfl ?_; intro b w1 hM)
  | (refine wpList_ins hM Tryz.underlying57 Tryz.underlying216 (by decide) rfl _ _ _ _ _ rfl rfl rfl rfl (by decide) (by decide) ?_; intro w2 hM'; replace hM := hM'; clear hM'))
 go_ret
 exact ⟨b, rfl, hM.1, hM.2.1⟩
def BndAt (kind : Int) (w : World) (v : Value) : Prop :=
 ∃ m, v = .agg #[.int .u64 (low kind), .int .u64 (high kind), .map m] ∧ ((kind = 4 ∧ ∃ b, m = some b ∧ MapIs w 118 b monthsF) ∨ (kind = 5 ∧ ∃ b, m = some b ∧ MapIs w 118 b dowF) ∨ (kind ≠ 4 ∧ kind ≠ 5 ∧ m = none))
theorem BndAt.below {kind : Int} {w w' : World} {v : Value} (h : BndAt kind w v) (hb : Below w.heap.size w w') : BndAt kind w' v := by
 obtain ⟨m, rfl, h⟩ := h
 refine ⟨m, rfl, ?_⟩
 rcases h with ⟨h1, b, h2, h3⟩ | ⟨h1, b, h2, h3⟩ | h
 ·exact .inl ⟨h1, b, h2, h3.below hb⟩
 ·exact .inr (.inl ⟨h1, b, h2, h3.below hb⟩)
 ·exact .inr (.inr h)
theorem seconds_c (w : World) : Calls Tryz.prog 59 #[] w fun e w' => ∃ v, e = .returned v ∧ BndAt 0 w' v ∧ Below w.heap.size w w' := by
 go_enter Tryz.func59, Tryz.ntmps59
 go_wp2
 exact bodyPost_ret (v := .agg #[.int .u64 0, .int .u64 59, .map none]) (by simp [results, Tryz.results59, go_sem]) rfl ⟨_, rfl, ⟨none, rfl, .inr (.inr ⟨by decide, by decide, rfl⟩)⟩, (Below.refl _ _).alloc (Nat.le_refl _) _⟩
theorem minutes_c (w : World) : Calls Tryz.prog 60 #[] w fun e w' => ∃ v, e = .returned v ∧ BndAt 1 w' v ∧ Below w.heap.size w w' := by
 go_enter Tryz.func60, Tryz.ntmps60
 go_wp2
 exact bodyPost_ret (v := .agg #[.int .u64 0, .int .u64 59, .map none]) (by simp [results, Tryz.results60, go_sem]) rfl ⟨_, rfl, ⟨none, rfl, .inr (.inr ⟨by decide, by decide, rfl⟩)⟩, (Below.refl _ _).alloc (Nat.le_refl _) _⟩
theorem hours_c (w : World) : Calls Tryz.prog 61 #[] w fun e w' => ∃ v, e = .returned v ∧ BndAt 2 w' v ∧ Below w.heap.size w w' := by
 go_enter Tryz.func61, Tryz.ntmps61
 go_wp2
 exact bodyPost_ret (v := .agg #[.int .u64 0, .int .u64 23, .map none]) (by simp [results, Tryz.results61, go_sem]) rfl ⟨_, rfl, ⟨none, rfl, .inr (.inr ⟨by decide, by decide, rfl⟩)⟩, (Below.refl _ _).alloc (Nat.le_refl _) _⟩
theorem dom_c (w : World) : Calls Tryz.prog 62 #[] w fun e w' => ∃ v, e = .returned v ∧ BndAt 3 w' v ∧ Below w.heap.size w w' := by
 go_enter Tryz.func62, Tryz.ntmps62
 go_wp2
 exact bodyPost_ret (v := .agg #[.int .u64 1, .int .u64 31, .map none]) (by simp [results, Tryz.results62, go_sem]) rfl ⟨_, rfl, ⟨none, rfl, .inr (.inr ⟨by decide, by decide, rfl⟩)⟩, (Below.refl _ _).alloc (Nat.le_refl _) _⟩
theorem bnd_one (lo hi : Int) (m : Option Nat) : (#[Value.int .u64 lo, .int .u64 hi, .map m] : Array Value).all (·.oneCell') = true := all_oneCell_toArray fun v hv => by
 simp only [List.mem_cons, List.not_mem_nil, or_false] at hv
 rcases hv with rfl | rfl | rfl <;> rfl
theorem wpList_store_bnd {ops : Array Oper} {rest : List Oper} {op : Oper} {a : Act} {w0 w : World} {Q : Exit → Act → World → Prop} {b : Nat} {l : List (Txt × Int)} {lo hi : Int} (hgd : op.guard = none) (x y : Operand) (ho : op.op = .store 121 x y)
  (hx : a.eval x = .pointer (some ⟨w0.heap.size, 0, none⟩)) (hy : a.eval y = .agg #[.int .u64 lo, .int .u64 hi, .map (some b)]) (hM : MapB (w0.alloc (.cells #[.int .u64 0, .int .u64 0, .map none] 121)) w 118 b l)
  (h : ∀ w1, w1.heap[w0.heap.size]? = some (.cells #[.int .u64 lo, .int .u64 hi, .map (some b)] 121 (0, 0)) → MapIs w1 118 b l → Below w0.heap.size w0 w1 → wpList Tryz.prog ops Q rest (a.put op.dst undef) w1) : wpList Tryz.prog ops Q (op :: rest) a w := by
 obtain ⟨h1, h2, h3⟩ := hM
 have hbk : w.heap[w0.heap.size]? = some (.cells #[.int .u64 0, .int .u64 0, .map none] 121 (0, 0)) := blk_below (blk_new w0 _) h2
 have hne : b ≠ w0.heap.size := by simp at h3; omega
 have hpt : w.there w0.heap.size 0 3 := fun j hj => by
  rw [Nat.zero_add, blk_cell hbk j]
  refine ⟨?_, blk_frozen hbk j⟩
  have : j = 0 ∨ j = 1 ∨ j = 2 := by omega
  rcases this with rfl | rfl | rfl <;> rfl
 refine wpList_store_mid hgd 121 x y ho w0.heap.size 0 #[.int .u64 lo, .int .u64 hi, .map (some b)] hx hy hpt (by kernel_rfl) (bnd_one lo hi (some b)) (h _ ?_ ?_ ?_)
 ·have := setCells_heap w0.heap.size 121 [.int .u64 lo, .int .u64 hi, .map (some b)] 0 w [.int .u64 0, .int .u64 0, .map none] hbk rfl
  simpa using this
 ·obtain ⟨D, ⟨es, clock, hh, F, hs, hD⟩, g2⟩ := h1
  exact ⟨D, ⟨es, clock, (World.heap_setCells_other w w0.heap.size 0 _ (blk_lt hh) hne).trans hh, F, hs, hD⟩, g2⟩
 ·refine setCells_below w0.heap.size w0.heap.size (Nat.le_refl _) _ 0 w0 w ?_
  have hb1 : Below w0.heap.size w0 (w0.alloc (.cells #[.int .u64 0, .int .u64 0, .map none] 121)) := below_alloc (Below.refl _ _) _
  exact below_step hb1 h2
theorem months_c (w : World) : Calls Tryz.prog 63 #[] w fun e w' => ∃ v, e = .returned v ∧ BndAt 4 w' v ∧ Below w.heap.size w w' := by
 go_enter Tryz.func63, Tryz.ntmps63
 have hB0 : Below (w.alloc (.cells #[.int .u64 0, .int .u64 0, .map none] 121)).heap.size (w.alloc (.cells #[.int .u64 0, .int .u64 0, .map none] 121)) (w.alloc (.cells #[.int .u64 0, .int .u64 0, .map none] 121)) := Below.refl _ _
 go_wp2_with (first
  | (refine wpList_mk hB0 118 119 rfl rfl ?_; intro b w1 hM)
  | (refine wpList_ins hM Tryz.underlying118 Tryz.underlying119 (by decide) rfl _ _ _ _ _ rfl rfl rfl rfl (by decide) (by decide) ?_; intro w2 hM'; replace hM := hM'; clear hM')
  | (refine wpList_store_bnd (w0 := w) rfl _ _ rfl rfl rfl hM ?_; intro w3 g1 g2 g3))
 exact bodyPost_ret (results_cell_row rfl _ _ _ 121 _ _ _ rfl g1 Tryz.underlying121 rfl rfl) rfl ⟨_, rfl, ⟨some b, rfl, .inl ⟨rfl, b, rfl, g2⟩⟩, g3⟩
theorem dow_c (w : World) : Calls Tryz.prog 64 #[] w fun e w' => ∃ v, e = .returned v ∧ BndAt 5 w' v ∧ Below w.heap.size w w' := by
 go_enter Tryz.func64, Tryz.ntmps64
 have hB0 : Below (w.alloc (.cells #[.int .u64 0, .int .u64 0, .map none] 121)).heap.size (w.alloc (.cells #[.int .u64 0, .int .u64 0, .map none] 121)) (w.alloc (.cells #[.int .u64 0, .int .u64 0, .map none] 121)) := Below.refl _ _
 go_wp2_with (first
  | (refine wpList_mk hB0 118 119 rfl rfl ?_; intro b w1 hM)
  | (refine wpList_ins hM Tryz.underlying118 Tryz.underlying119 (by decide) rfl _ _ _ _ _ rfl rfl rfl rfl (by decide) (by decide) ?_; intro w2 hM'; replace hM := hM'; clear hM')
  | (refine wpList_store_bnd (w0 := w) rfl _ _ rfl rfl rfl hM ?_; intro w3 g1 g2 g3))
 exact bodyPost_ret (results_cell_row rfl _ _ _ 121 _ _ _ rfl g1 Tryz.underlying121 rfl rfl) rfl ⟨_, rfl, ⟨some b, rfl, .inr (.inl ⟨rfl, b, rfl, g2⟩)⟩, g3⟩
open Go.RowKit Go.Proofs.YtcjdideliifkhaaGreatDoorW.PrintWords Go.Proofs.YtcjdideliifkhaaGreatDoorW.PrintLast Go.Proofs.YtcjdideliifkhaaGreatDoorW.PrintMore PFnCronTextAfterAnywhere
structure RowB (w0 w : World) (e : TypeId) (v : Value) (us : List Value) : Prop where
 own : w.ownsRow w0.heap.size e 1 v us.length us
 below : Below w0.heap.size w0 w
def ItAt (w : World) (k : Nat) (s : ByteArray) (pos : Nat) : Prop := w.heap[k]? = some (.stringIter s pos)
theorem ItAt.lt {w : World} {k : Nat} {s : ByteArray} {pos : Nat} (h : ItAt w k s pos) : k < w.heap.size := (Array.getElem?_eq_some_iff.1 h).1
theorem ItAt.alloc {w : World} {k : Nat} {s : ByteArray} {pos : Nat} (h : ItAt w k s pos) (o : Obj) : ItAt (w.alloc o) k s pos := (Below.heap_alloc w o k h.lt).trans h
theorem ItAt.below {w w' : World} {k : Nat} {s : ByteArray} {pos : Nat} (h : ItAt w k s pos) (hb : Below w.heap.size w w') : ItAt w' k s pos := (hb.block k h.lt).trans h
theorem ItAt.moved {w : World} {k : Nat} {s : ByteArray} {pos : Nat} (h : ItAt w k s pos) (pos' : Nat) : ItAt (w.iterAt k s pos') k s pos' := Lib.iterAt_heap w k s pos pos' h
theorem RowB.nil (w0 w : World) (e : TypeId) (h : Below w0.heap.size w0 w) : RowB w0 w e (.slice none 0 0) [] := ⟨⟨rfl, .inl ⟨rfl, rfl⟩⟩, h⟩
theorem RowB.alloc {w0 w : World} {e : TypeId} {v : Value} {us : List Value} (h : RowB w0 w e v us) (o : Obj) : RowB w0 (w.alloc o) e v us := ⟨h.own.alloc o, below_alloc h.below o⟩
theorem RowB.block {w0 w : World} {e : TypeId} {v : Value} {us : List Value} (h : RowB w0 w e v us) : ∀ g, v.ownBlock = some g → w0.heap.size ≤ g ∧ ∃ cur, w.heap[g]? = some (.cells cur e (0, 0)) := by
 obtain ⟨⟨_, h1 | ⟨g, cap, cur, rfl, hg, hc, _⟩⟩, _⟩ := h
 ·rintro g hg; rw [h1.1] at hg; cases hg
 ·intro g' hg'; cases hg'; exact ⟨hg, cur, hc⟩
theorem ItAt.ne {w0 w : World} {e : TypeId} {v : Value} {us : List Value} (h : RowB w0 w e v us) {k : Nat} {s : ByteArray} {pos : Nat} (hk : ItAt w k s pos) : some k ≠ v.ownBlock := fun he => by
 obtain ⟨_, cur, hc⟩ := h.block k he.symm
 rw [ItAt, hc] at hk; cases hk
theorem RowB.moved {w0 w : World} {e : TypeId} {v : Value} {us : List Value} (h : RowB w0 w e v us) {k : Nat} {s : ByteArray} {pos : Nat} (hk : ItAt w k s pos) (hle : w0.heap.size ≤ k) (pos' : Nat) : RowB w0 (w.iterAt k s pos') e v us := by
 have hne := ItAt.ne h hk
 refine ⟨?_, Lib.below_iterAt h.below hle s pos'⟩
 obtain ⟨⟨hl, h1 | ⟨g, cap, cur, rfl, hg, hc, hr⟩⟩, _⟩ := h
 ·exact ⟨hl, .inl h1⟩
 ·refine ⟨hl, .inr ⟨g, cap, cur, rfl, hg, ?_, hr⟩⟩
  rw [Lib.iterAt_other w k g s pos' (fun e => hne (by rw [e]; rfl))]; exact hc
theorem RowB.below' {w0 w w' : World} {e : TypeId} {v : Value} {us : List Value} (h : RowB w0 w e v us) (hb : Below w.heap.size w w') : RowB w0 w' e v us := by
 refine ⟨?_, below_step h.below hb⟩
 obtain ⟨⟨hl, h1 | ⟨g, cap, cur, rfl, hg, hc, hr⟩⟩, _⟩ := h
 ·exact ⟨hl, .inl h1⟩
 ·exact ⟨hl, .inr ⟨g, cap, cur, rfl, hg, blk_below hc hb, hr⟩⟩
theorem ItAt.grown {w w' : World} {k : Nat} {s : ByteArray} {pos : Nat} (h : ItAt w k s pos) {row : Option Nat} (hg : w.grownBy w' row) (hne : some k ≠ row) : ItAt w' k s pos := (hg.block k h.lt hne).trans h
noncomputable def info5 : TypeInfo := (Tryz.prog.info? 5).get (by kernel_rfl)
structure ElemOk (T e : TypeId) (i : TypeInfo) (z : Value) : Prop where
 sl : Tryz.prog.underlying T = some (.slice e)
 inf : Tryz.prog.info? e = some i
 zero : i.zero = some z
 size : i.size = 1
 bytes : i.bytes ≤ 16
 cells : z.cells.size = 1
theorem elem9 : ElemOk 50 9 info9 (.string ⟨#[]⟩) := ⟨by kernel_rfl, by kernel_rfl, by kernel_rfl, by kernel_rfl, by rw [show info9.bytes = 16 by kernel_rfl]; decide, by kernel_rfl⟩
theorem elem5 : ElemOk 257 5 info5 (.int .u8 0) := ⟨by kernel_rfl, by kernel_rfl, by kernel_rfl, by kernel_rfl, by rw [show info5.bytes = 1 by kernel_rfl]; decide, by kernel_rfl⟩
theorem wpList_app1 {ops : Array Oper} {rest : List Oper} {o : Oper} {a : Act} {Q : Exit → Act → World → Prop} {w0 w : World} {T e : TypeId} {i : TypeInfo} {z : Value} (hE : ElemOk T e i z) {v : Value} {us : List Value} (hR : RowB w0 w e v us)
  (hgd : o.guard = none) (s x : Operand) (ho : o.op = .call { callee := .builtin .append, args := #[s, x], argTypes := #[T, T] }) (hs : a.eval s = v) (g c : Nat) (u : Value) (hx : a.eval x = .slice (some ⟨g, 0, none⟩) 1 c) (hu : w.cell? ⟨g, 0, none⟩ = some u) (hu1 : u.oneCell' = true) (hl : us.length ≤ 4294967296)
  (h : ∀ v' w', RowB w0 w' e v' (us ++ [u]) → (∀ k s pos, ItAt w k s pos → ItAt w' k s pos) → v' ≠ .slice none 0 0 → wpList Tryz.prog ops Q rest (a.put o.dst v') w') : wpList Tryz.prog ops Q (o :: rest) a w := by
 have hb := hE.bytes
 refine wpList_append_own w hgd s x T ho w0.heap.size e i z 1 i.bytes hE.sl hE.inf hE.zero hE.size rfl hE.cells (by decide) v us.length us hs hR.own ⟨g, 0, none⟩ 1 c [u] hx rfl ?_ ?_ ?_ ?_ hR.below.size ?_
 ·intro j u' hj
  have : j = 0 := by
   rcases Nat.eq_zero_or_pos j with h | h
   ·exact h
   ·rw [List.getElem?_eq_none (by simp; omega)] at hj; cases hj
  subst this
  simp at hj
  rw [add_plain, hu, hj]
 ·intro u' hu'
  rw [List.mem_singleton] at hu'
  rw [hu']; exact hu1
 ·unfold maxLen; omega
 ·calc (us.length + 1) * i.bytes ≤ (4294967296 + 1) * 16 := Nat.mul_le_mul (by omega) hb
   _ ≤ _ := by decide
 ·intro v' w' hown hg hn
  refine h v' w' ⟨by rw [List.length_append]; exact hown, hR.below.grown hg hR.below.size (fun k hk => (hR.block k hk).1)⟩ (fun k s pos hk => hk.grown hg (ItAt.ne hR hk)) (fun he => ?_)
  have := (hn.1 he).2
  cases this
theorem wpList_apps {ops : Array Oper} {rest : List Oper} {o : Oper} {a : Act} {Q : Exit → Act → World → Prop} {w0 w : World} {v : Value} {us : List Value} (hR : RowB w0 w 5 v us)
  (hgd : o.guard = none) (s x : Operand) (ho : o.op = .call { callee := .builtin .append, args := #[s, x], argTypes := #[257, 9] }) (hs : a.eval s = v) (t : ByteArray) (hx : a.eval x = .string t) (ht : 0 < t.size) (ht2 : t.size ≤ 16) (hl : us.length ≤ 4294967296)
  (h : ∀ v' w', RowB w0 w' 5 v' (us ++ Lib.strCells t) → (∀ k s pos, ItAt w k s pos → ItAt w' k s pos) → v' ≠ .slice none 0 0 → wpList Tryz.prog ops Q rest (a.put o.dst v') w') : wpList Tryz.prog ops Q (o :: rest) a w := by
 refine Lib.wpList_append_own_string w hgd s x 257 9 ho w0.heap.size 5 info5 elem5.sl Tryz.underlying9 elem5.inf elem5.zero elem5.size (by kernel_rfl) v us.length us hs hR.own t hx (by unfold maxLen; omega) (by omega) hR.below.size ?_
 intro v' w' hown hg hn
 refine h v' w' ⟨by rw [List.length_append, Lib.strCells_length]; exact hown, hR.below.grown hg hR.below.size (fun k hk => (hR.block k hk).1)⟩ (fun k s pos hk => hk.grown hg (ItAt.ne hR hk)) (fun he => ?_)
 have := (hn.1 he).2
 omega
theorem RowB.strs {w0 w : World} {v : Value} {l : List ByteArray} (h : RowB w0 w 9 v (l.map Value.string)) : Strs w v l := by
 obtain ⟨⟨hl, h1 | ⟨g, cap, cur, rfl, hg, hc, hn, hcap, hsz, ht⟩⟩, _⟩ := h
 ·have : l = [] := by have := h1.2; simp at this; exact this
  subst this
  exact ⟨none, 0, by rw [h1.1]; rfl, fun i hi => by simp at hi⟩
 ·refine ⟨some ⟨g, 0, none⟩, cap, by simp, fun i hi => ⟨⟨g, 0, none⟩, rfl, ?_⟩⟩
  rw [add_plain, blk_cell hc i]
  have h2 : (cur.toList.take ((l.map Value.string).length * 1))[i]? = some (.string l[i]) := by rw [ht]; simp [hi]
  rw [List.getElem?_take] at h2
  split at h2
  ·simpa using h2
  ·cases h2
def low8 (c : UInt8) : UInt8 := if 65 ≤ c.toNat ∧ c.toNat ≤ 90 then c + 32 else c
theorem low8_nat (c : UInt8) : (low8 c).toNat = if 65 ≤ c.toNat ∧ c.toNat ≤ 90 then c.toNat + 32 else c.toNat := by
 unfold low8
 split
 ·rename_i h
  rw [UInt8.toNat_add]; simp; omega
 ·rfl
def bcells (l : Txt) : List Value := l.map fun b => .int .u8 (b.toNat : Int)
theorem encode_ascii (c : UInt8) (h : c.toNat < 128) : Utf8.encode (c.toNat : Int) = ofL [c] := by
 have hv : Utf8.valid (c.toNat : Int) = true := by unfold Utf8.valid; simp; omega
 unfold Utf8.encode
 simp only [hv, if_true, Int.toNat_natCast]
 rw [if_pos h]
 simp [ofL]
theorem conv_rune (c : UInt8) (h : c.toNat < 128) (w : World) : (convert 21 9 (.int .i32 (c.toNat : Int))).run Tryz.prog w = .ok (.string (ofL [c])) w := by
 have h1 := Tryz.underlying21
 have h2 := Tryz.underlying9
 simp [convert, run_underlying h1, run_underlying h2, Conv.intToString, encode_ascii c h, Result.andThen]
theorem conv_nil (w : World) : (convert 257 9 (.slice none 0 0)).run Tryz.prog w = .ok (.string (ofL [])) w := by kernel_rfl
theorem foreign_at {s : ByteArray} (ha : foreign (toL s) = false) (i : Nat) (h : i < s.size) : s[i].toNat < 128 := by
 unfold foreign at ha
 rw [List.any_eq_false] at ha
 have := ha s[i] (by
  have h2 := byte_at s i h
  have : s[i] ∈ (toL s).drop i := by rw [h2]; exact List.mem_cons_self ..
  exact List.mem_of_mem_drop this)
 simpa using this
theorem take_at (s : ByteArray) (i : Nat) (h : i < s.size) : (toL s).take (i + 1) = (toL s).take i ++ [s[i]] := by
 rw [List.take_succ_eq_append_getElem (by rw [toL_len]; exact h)]; rfl
def LowL (s : ByteArray) (w : World) (v : Value) (wr : World) : Prop :=
 ∃ (v0 : Value) (pos : Nat), v0 = v ∧ pos ≤ s.size ∧ RowB w wr 5 v0 (bcells (((toL s).take pos).map low8)) ∧ ItAt wr w.heap.size s pos
theorem lower_c (s : ByteArray) (hs : s.size ≤ 4294967295) (ha : foreign (toL s) = false) (w : World) :
  Calls Tryz.prog 145 #[.string s] w fun e w' => e = .returned (.string (ofL ((toL s).map low8))) ∧ Below w.heap.size w w' := by
 go_enter Tryz.func145, Tryz.ntmps145
 go_wp2
 have hst := Lib.hid (show LowL s w (.slice none 0 0) (w.iter s 0) from ⟨_, 0, rfl, Nat.zero_le _, RowB.nil _ _ _ (below_alloc (Below.refl _ _) _), World.iter_heap w s 0⟩)
 go_loopw [3] (fun v wr => LowL s w v wr) (fun _ wr => s.size - wr.iterPos w.heap.size)
 case atStart => exact hst.out
 case round =>
  obtain ⟨v, pos, rfl, hp, hR, hit⟩ := hrel
  clear hst
  by_cases hlt : pos < s.size
  ·have hc := foreign_at ha pos hlt
   have hnx : ∀ ty, (Instr.next (.pointer (some ⟨w.heap.size, 0, none⟩)) true ty).run Tryz.prog wr = _ := fun ty => Lib.run_next_ascii_at wr w.heap.size s pos ty hit hlt hc
   have hR2 := hR.moved hit (Nat.le_refl _) (pos + 1)
   have hit2 := ItAt.moved hit (pos + 1)
   have htk := take_at s pos hlt
   have hlen : (bcells (((toL s).take pos).map low8)).length ≤ 4294967296 := by unfold bcells; simp; omega
   have HN := Lib.hid (show ∀ (v' : Value) (w' : World), RowB w w' 5 v' (bcells (((toL s).take pos).map low8) ++ [.int .u8 ((low8 s[pos]).toNat : Int)]) → ItAt w' w.heap.size s (pos + 1) → v' ≠ .slice none 0 0 → LowL s w v' w' from fun v' w' h1 h2 h3 =>
    ⟨v', pos + 1, rfl, hlt, by rw [htk]; simpa [bcells] using h1, h2⟩)
   have hmes := Lib.hid (show ∀ w' : World, ItAt w' w.heap.size s (pos + 1) → s.size - w'.iterPos w.heap.size < s.size - wr.iterPos w.heap.size from fun w' h => by
    have h1 : w'.iterPos w.heap.size = pos + 1 := by unfold World.iterPos; rw [h]
    have h2 : wr.iterPos w.heap.size = pos := by unfold World.iterPos; rw [hit]
    rw [h1, h2]; omega)
   have hl8 := low8_nat s[pos]
   have HR2 := Lib.hid hR2
   have HI2 := Lib.hid hit2
   clear hR2 hit2 htk hR hit
   generalize wr.iterAt w.heap.size s (pos + 1) = W at *
   generalize bcells (((toL s).take pos).map low8) = us at *
   have hcr := conv_rune s[pos] hc
   generalize s[pos] = c at *
   by_cases h65 : 65 ≤ c.toNat
   ·by_cases h90 : c.toNat ≤ 90
    ·have hd : decide ((65 : Int) ≤ (c.toNat : Int)) = true := by simp; omega
     have hd2 : decide ((c.toNat : Int) ≤ 90) = true := by simp; omega
     rw [if_pos ⟨h65, h90⟩] at hl8
     have hl9 : ((low8 c).toNat : Int) = (c.toNat : Int) + 32 := by rw [hl8]; simp
     rw [hl9] at HN
     clear hl8 hl9
     have hR2 := HR2.out
     go_wp2_with (refine wpList_app1 elem5 (hR2.alloc (.cells #[.int .u8 ((c.toNat : Int) - 65 + 97)] 5)) rfl _ _ rfl rfl W.heap.size 1 (.int .u8 ((c.toNat : Int) - 65 + 97)) rfl (blk_cell (blk_new _ _) 0) rfl hlen ?_; intro v' w' h1 h2 h3)
     rw [show (c.toNat : Int) - 65 + 97 = (c.toNat : Int) + 32 by omega] at h1
     exact ⟨HN.out v' w' h1 (h2 _ _ _ (HI2.out.alloc _)) h3, hmes.out _ (h2 _ _ _ (HI2.out.alloc _))⟩
    ·have hd : decide ((65 : Int) ≤ (c.toNat : Int)) = true := by simp; omega
     have hd2 : decide ((c.toNat : Int) ≤ 90) = false := by simp; omega
     rw [if_neg (by omega)] at hl8
     rw [hl8] at HN
     have h304 : ((c.toNat : Int) == 304) = false := by simp; omega
     have h8490 : ((c.toNat : Int) == 8490) = false := by simp; omega
     clear hl8
     have hR2 := HR2.out
     go_wp2_with (refine wpList_apps hR2 rfl _ _ rfl rfl (ofL [c]) rfl (show 0 < 1 by decide) (show 1 ≤ 16 by decide) hlen ?_; intro v' w' h1 h2 h3)
     exact ⟨HN.out v' w' h1 (h2 _ _ _ HI2.out) h3, hmes.out _ (h2 _ _ _ HI2.out)⟩
   ·have hd : decide ((65 : Int) ≤ (c.toNat : Int)) = false := by simp; omega
    rw [if_neg (by omega)] at hl8
    rw [hl8] at HN
    have h304 : ((c.toNat : Int) == 304) = false := by simp; omega
    have h8490 : ((c.toNat : Int) == 8490) = false := by simp; omega
    clear hl8
    have hR2 := HR2.out
    go_wp2_with (refine wpList_apps hR2 rfl _ _ rfl rfl (ofL [c]) rfl (show 0 < 1 by decide) (show 1 ≤ 16 by decide) hlen ?_; intro v' w' h1 h2 h3)
    exact ⟨HN.out v' w' h1 (h2 _ _ _ HI2.out) h3, hmes.out _ (h2 _ _ _ HI2.out)⟩
  ·have hps : pos = s.size := by omega
   subst hps
   have hnx : ∀ ty, (Instr.next (.pointer (some ⟨w.heap.size, 0, none⟩)) true ty).run Tryz.prog wr = _ := fun ty => Lib.run_next_end_at wr w.heap.size s s.size ty hit hlt
   rw [List.take_of_length_le (by rw [toL_len]; exact Nat.le_refl _)] at hR
   have hb := hR.below
   have hcv : (convert 257 9 v).run Tryz.prog wr = .ok (.string (ofL ((toL s).map low8))) wr := by
    obtain ⟨⟨hl, h1 | ⟨g, cap, cur, rfl, hg, hc, hn, hcap, hsz, ht⟩⟩, _⟩ := hR
    ·have h0 : (toL s).map low8 = [] := by
      have := h1.2
      unfold bcells at this
      rw [List.length_map] at this
      exact List.eq_nil_of_length_eq_zero this
     rw [h0, h1.1]
     exact conv_nil wr
    ·have hbl : (bcells ((toL s).map low8)).length = ((toL s).map low8).length := by unfold bcells; simp
     rw [hbl] at ht ⊢
     refine run_convert_bytes_back wr 257 9 5 ⟨g, 0, none⟩ cap _ Tryz.underlying257 Tryz.underlying5 Tryz.underlying9 (fun j hj => ?_)
     rw [add_plain, blk_cell hc j]
     have h2 : (cur.toList.take (((toL s).map low8).length * 1))[j]? = some (.int .u8 ((((toL s).map low8)[j]).toNat : Int)) := by
      rw [ht]; unfold bcells; rw [List.getElem?_map, List.getElem?_eq_getElem hj]; rfl
     rw [List.getElem?_take] at h2
     split at h2
     ·simpa using h2
     ·cases h2
   clear hR hit hp
   go_wp2
   go_ret
   exact ⟨rfl, hb⟩
end Go.Proofs.YtcjdideliifkhaaGreatDoor
