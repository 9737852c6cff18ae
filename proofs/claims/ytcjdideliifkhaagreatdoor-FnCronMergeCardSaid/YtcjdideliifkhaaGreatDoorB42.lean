import Derived.Test.YtcjdideliifkhaaGreatDoorB41
set_option maxRecDepth 100000
set_option maxHeartbeats 16000000
namespace Go.Proofs.YtcjdideliifkhaaGreatDoor
open Go.RowKit Go.Maps Go.Proofs.YtcjdideliifkhaaGreatDoorW.PrintWords Go.Proofs.YtcjdideliifkhaaGreatDoorW.PrintLast Go.Proofs.YtcjdideliifkhaaGreatDoorW.PrintMore PFnCronTextAfterAnywhere
open Mrg (Sts upd mergeL leastL)
set_option linter.unusedVariables false
set_option linter.unusedSimpArgs false
noncomputable def nxtM (ms : List CMean) (i : Nat) (s : Int) : Option Int := nextR (ms.getD i CMean.zero) s
noncomputable def firstM (ms : List CMean) (s : Int) : Sts := fun i => nxtM ms i s
def secM (x : Sts) (i : Nat) : Int := (x i).getD 0
def someM (x : Sts) (i : Nat) : Bool := (x i).isSome
theorem secM_upd (x : Sts) (i : Nat) (v : Option Int) : (fun j => if j = i then v.getD 0 else secM x j) = secM (upd x i v) := by
 funext j; unfold secM upd; split <;> rfl
theorem someM_upd (x : Sts) (i : Nat) (v : Option Int) : (fun j => if j = i then v.isSome else someM x j) = someM (upd x i v) := by
 funext j; unfold someM upd; split <;> rfl
def evCells (e : Nat × Int) : List Value := [.int .i64 (e.1 : Int), .int .i64 e.2, .int .i64 0]
noncomputable def info66 : TypeInfo := (Tryz.prog.info? 66).get (by kernel_rfl)
theorem elem66 : ElemN 63 66 info66 (.agg #[.int .i64 0, .int .i64 0, .int .i64 0]) 3 := ⟨by kernel_rfl, by kernel_rfl, by kernel_rfl, by kernel_rfl, by decide, by rw [show info66.bytes = 24 by kernel_rfl]; decide, by kernel_rfl⟩
structure CmS (w0 w : World) (g gA gZ n k : Nat) (ms : List CMean) (x : Sts) : Prop where
 below : Below w0.heap.size w0 w
 le : w0.heap.size ≤ gA
 le2 : w0.heap.size ≤ gZ
 a : ABlk w gA n k (secM x)
 z : ZBlk w gZ n k (someM x)
 rows : MnRow w g ms
 ne : gA ≠ gZ
 lt : g < w0.heap.size
theorem CmS.goes {w0 w w' : World} {g gA gZ n k : Nat} {ms : List CMean} {x : Sts} (h : CmS w0 w g gA gZ n k ms x) (hb : Below w.heap.size w w') : CmS w0 w' g gA gZ n k ms x :=
 ⟨below_step h.below hb, h.le, h.le2, h.a.goes hb, h.z.goes hb, h.rows.goes hb, h.ne, h.lt⟩
theorem MnRow.far {w : World} {g : Nat} {ms : List CMean} (h : MnRow w g ms) {p : Addr} (hp : p.block ≠ g) (u : Value) : MnRow (w.setCell p u) g ms := fun i hi j v hv => by
 rw [World.cell?_setCell_far w p ⟨g, i * 387 + j, none⟩ u hp]; exact h i hi j v hv
theorem CmS.put {w0 w : World} {g gA gZ n k k' : Nat} {ms : List CMean} {x : Sts} (h : CmS w0 w g gA gZ n k ms x) (i : Nat) (hi : i < n) (hk : ∀ j, j < k' → j < k ∨ j = i) (v : Option Int) :
  CmS w0 (((w.setCell ⟨gA, i * 2, none⟩ (.int .i64 (v.getD 0))).setCell ⟨gA, i * 2 + 1, none⟩ (.int .i64 0)).setCell ⟨gZ, i, none⟩ (.bool v.isSome)) g gA gZ n k' ms (upd x i v) := by
 have h1 := h.lt
 have h2 := h.le
 have h3 := h.le2
 refine ⟨below_set (below_set (below_set h.below h2) h2) h3, h2, h3, ?_, ?_, ((h.rows.far (by show gA ≠ g; omega) _).far (by show gA ≠ g; omega) _).far (by show gZ ≠ g; omega) _, h.ne, h1⟩
 ·have := (h.a.put i hi hk (v.getD 0)).far (p := ⟨gZ, i, none⟩) h.ne (.bool v.isSome)
  rw [secM_upd] at this; exact this
 ·have := ((h.z.far (p := ⟨gA, i * 2, none⟩) (Ne.symm h.ne) (.int .i64 (v.getD 0))).far (p := ⟨gA, i * 2 + 1, none⟩) (Ne.symm h.ne) (.int .i64 0)).put i hi hk v.isSome
  rw [someM_upd] at this; exact this
theorem RowN.set {w0 w : World} {e : TypeId} {k : Nat} {v : Value} {us : List (List Value)} (h : RowN w0 w e k v us) {p : Addr} {cs : Array Value} {t : TypeId} (hp : w.heap[p.block]? = some (.cells cs t (0, 0))) (ht : t ≠ e) (hle : w0.heap.size ≤ p.block) (u : Value) : RowN w0 (w.setCell p u) e k v us := by
 refine ⟨own_setCell h.own (fun he => ?_) u, h.wide, h.below.setCell hle u⟩
 obtain ⟨⟨_, h1 | ⟨g', cap, cur, rfl, hg', hc, _⟩⟩, _, _⟩ := h
 ·rw [h1.1] at he; cases he
 ·cases he; rw [hc] at hp; cases hp; exact ht rfl
structure CmT (w0 w : World) (g gA gZ n : Nat) (ms : List CMean) (x : Sts) (evs : List (Nat × Int)) (v : Value) : Prop where
 mem : CmS w0 w g gA gZ n n ms x
 row : RowN w0 w 66 3 v (evs.map evCells)
theorem CmT.goes {w0 w w' : World} {g gA gZ n : Nat} {ms : List CMean} {x : Sts} {evs : List (Nat × Int)} {v : Value} (h : CmT w0 w g gA gZ n ms x evs v) (hb : Below w.heap.size w w') : CmT w0 w' g gA gZ n ms x evs v := ⟨h.mem.goes hb, h.row.goes hb⟩
theorem CmT.app {w0 w w' : World} {g gA gZ n : Nat} {ms : List CMean} {x : Sts} {evs : List (Nat × Int)} {v v' : Value} {e : Nat × Int} (h : CmT w0 w g gA gZ n ms x evs v) (hr : RowN w0 w' 66 3 v' ((evs.map evCells) ++ [evCells e])) (hg : w.grownBy w' v.ownBlock) : CmT w0 w' g gA gZ n ms x (evs ++ [e]) v' := by
 obtain ⟨ca, a1, a2⟩ := h.mem.a
 obtain ⟨cz, z1, z2⟩ := h.mem.z
 have hb := hr.below
 refine ⟨⟨hb, h.mem.le, h.mem.le2, ⟨ca, h.row.apart hg a1 (by decide), a2⟩, ⟨cz, h.row.apart hg z1 (by decide), z2⟩, fun i hi j v hv => ?_, h.mem.ne, h.mem.lt⟩, by rw [List.map_append]; exact hr⟩
 have hlt := h.mem.lt
 have h1 := h.mem.rows i hi j v hv
 rw [h.mem.below.cell (p := ⟨g, i * 387 + j, none⟩) hlt] at h1
 rw [hb.cell (p := ⟨g, i * 387 + j, none⟩) hlt]; exact h1
structure CmU (w0 w : World) (g gA gZ n : Nat) (ms : List CMean) (x y : Sts) (evs : List (Nat × Int)) (v : Value) : Prop where
 le : w0.heap.size ≤ gA
 le2 : w0.heap.size ≤ gZ
 a : ABlk w gA n n (secM x)
 z : ZBlk w gZ n n (someM y)
 rows : MnRow w g ms
 ne : gA ≠ gZ
 lt : g < w0.heap.size
 row : RowN w0 w 66 3 v (evs.map evCells)
theorem CmT.u {w0 w : World} {g gA gZ n : Nat} {ms : List CMean} {x : Sts} {evs : List (Nat × Int)} {v : Value} (h : CmT w0 w g gA gZ n ms x evs v) : CmU w0 w g gA gZ n ms x x evs v := ⟨h.mem.le, h.mem.le2, h.mem.a, h.mem.z, h.mem.rows, h.mem.ne, h.mem.lt, h.row⟩
theorem CmU.t {w0 w : World} {g gA gZ n : Nat} {ms : List CMean} {x : Sts} {evs : List (Nat × Int)} {v : Value} (h : CmU w0 w g gA gZ n ms x x evs v) : CmT w0 w g gA gZ n ms x evs v := ⟨⟨h.row.below, h.le, h.le2, h.a, h.z, h.rows, h.ne, h.lt⟩, h.row⟩
theorem CmU.goes {w0 w w' : World} {g gA gZ n : Nat} {ms : List CMean} {x y : Sts} {evs : List (Nat × Int)} {v : Value} (h : CmU w0 w g gA gZ n ms x y evs v) (hb : Below w.heap.size w w') : CmU w0 w' g gA gZ n ms x y evs v := ⟨h.le, h.le2, h.a.goes hb, h.z.goes hb, h.rows.goes hb, h.ne, h.lt, h.row.goes hb⟩
theorem CmU.putA {w0 w : World} {g gA gZ n : Nat} {ms : List CMean} {x y : Sts} {evs : List (Nat × Int)} {v : Value} (h : CmU w0 w g gA gZ n ms x y evs v) (i : Nat) (hi : i < n) (r : Option Int) :
  CmU w0 ((w.setCell ⟨gA, i * 2, none⟩ (.int .i64 (r.getD 0))).setCell ⟨gA, i * 2 + 1, none⟩ (.int .i64 0)) g gA gZ n ms (upd x i r) y evs v := by
 obtain ⟨ca, a1, a2⟩ := h.a
 have hl := h.lt
 have hle := h.le
 have a1' := blk_set a1 (i * 2) (.int .i64 (r.getD 0))
 have ha := h.a.put (k' := n) i hi (fun j hj => .inl hj) (r.getD 0)
 rw [secM_upd] at ha
 exact ⟨h.le, h.le2, ha, (h.z.far (p := ⟨gA, i * 2, none⟩) (Ne.symm h.ne) _).far (p := ⟨gA, i * 2 + 1, none⟩) (Ne.symm h.ne) _, (h.rows.far (p := ⟨gA, i * 2, none⟩) (by show gA ≠ g; omega) _).far (p := ⟨gA, i * 2 + 1, none⟩) (by show gA ≠ g; omega) _, h.ne, h.lt,
  (h.row.set (p := ⟨gA, i * 2, none⟩) a1 (by decide) h.le _).set (p := ⟨gA, i * 2 + 1, none⟩) a1' (by decide) h.le _⟩
theorem CmU.putZ {w0 w : World} {g gA gZ n : Nat} {ms : List CMean} {x y : Sts} {evs : List (Nat × Int)} {v : Value} (h : CmU w0 w g gA gZ n ms x y evs v) (i : Nat) (hi : i < n) (r : Option Int) :
  CmU w0 (w.setCell ⟨gZ, i, none⟩ (.bool r.isSome)) g gA gZ n ms x (upd y i r) evs v := by
 obtain ⟨cz, z1, z2⟩ := h.z
 have hl := h.lt
 have hle := h.le2
 have hz := h.z.put (k' := n) i hi (fun j hj => .inl hj) r.isSome
 rw [someM_upd] at hz
 exact ⟨h.le, h.le2, h.a.far (p := ⟨gZ, i, none⟩) h.ne _, hz, h.rows.far (p := ⟨gZ, i, none⟩) (by show gZ ≠ g; omega) _, h.ne, h.lt, h.row.set (p := ⟨gZ, i, none⟩) z1 (by decide) h.le2 _⟩
theorem RowN.isSlice {w0 w : World} {e : TypeId} {k : Nat} {v : Value} {us : List (List Value)} (h : RowN w0 w e k v us) : ∃ A c, v = .slice A us.length c := by
 obtain ⟨⟨_, h1 | ⟨g', cap, cur, rfl, _⟩⟩, _, _⟩ := h
 ·rw [h1.1, h1.2]; exact ⟨_, _, rfl⟩
 ·exact ⟨_, _, rfl⟩
def lv : Option Nat → Int
 | none => -1
 | some l => l
theorem merge_c (g c : Nat) (ms : List CMean) (hn0 : 0 < ms.length) (hn : ms.length ≤ 5) (hd : ∀ m ∈ ms, DelOk m) (s ns : Int) (hs0 : -62135596800 ≤ s) (hs1 : s ≤ 253402300799) (N : Nat) (hN : N ≤ 30) (w : World) (hg : g < w.heap.size) (hr : MnRow w g ms) :
  Calls Tryz.prog 19 #[.slice (some ⟨g, 0, none⟩) ms.length c, .agg #[.int .i64 s, .int .i64 ns], .int .i64 (N : Int)] w fun e w' => ∃ v, e = .returned v ∧ RowN w w' 66 3 v ((mergeL (nxtM ms) ms.length N (firstM ms s)).map evCells) := by
 obtain ⟨n, hnn⟩ : ∃ n, ms.length = n := ⟨_, rfl⟩
 rw [hnn] at hn0 hn ⊢
 have HN := Lib.hid hnn
 have HD := Lib.hid hd
 have HR := Lib.hid hr
 have hu23 := Tryz.underlying23
 clear hnn hd hr
 go_enter Tryz.func19, Tryz.ntmps19
 have hB0 := Lib.hid (below_alloc (Below.refl w.heap.size w) (.cells #[.int .i64 s, .int .i64 ns] 23))
 have hT0 := Lib.hid (blk_new w (.cells #[.int .i64 s, .int .i64 ns] 23))
 go_upto_region 4 with (first
  | (refine wpList_makeA rfl (.tmp 15) (.tmp 15) rfl n hn rfl rfl ?_; intro gA hgA w1 ha hb1 hlt; have HA := Lib.hid ha; have HB1 := Lib.hid (below_step hB0.out hb1); have HGA := Lib.hid (show gA = w.heap.size + 1 by rw [hgA]; simp); have HT1 := Lib.hid (blk_below hT0.out hb1); clear ha hb1 hgA hlt)
  | (refine wpList_makeZ rfl (.tmp 18) (.tmp 18) rfl n hn rfl rfl ?_; intro gZ hgZ w2 hz hb2 hlt; have HZ := Lib.hid hz; have HA2 := Lib.hid (HA.out.goes hb2); have HB2 := Lib.hid (below_step HB1.out hb2); have HGZ := Lib.hid (show w.heap.size + 1 < gZ by obtain ⟨cur, h1, _⟩ := HA.out; have := blk_lt h1; have := HGA.out; omega); have HT2 := Lib.hid (blk_below HT1.out hb2); clear hz hb2 hgZ hlt))
 have hS0 : CmS w w2 g gA gZ n 0 ms (fun _ => none) := by
  obtain ⟨cur, a1, a2, _⟩ := HA2.out
  obtain ⟨cuz, z1, z2, _⟩ := HZ.out
  have e1 := HGA.out
  have e2 := HGZ.out
  exact ⟨HB2.out, by omega, by omega, ⟨cur, a1, a2, fun i hi => by omega⟩, ⟨cuz, z1, z2, fun i hi => by omega⟩, HR.out.goes HB2.out, by omega, hg⟩
 have HS0 := Lib.hid hS0
 clear hS0
 go_wp2
 go_loopw [22] (fun v22 wr => ∃ k : Nat, v22 = .int .i64 (k : Int) ∧ k ≤ n ∧ (∃ x : Sts, (∀ i, i < k → x i = firstM ms s i) ∧ CmS w wr g gA gZ n k ms x) ∧ wr.heap[w.heap.size]? = some (.cells #[.int .i64 s, .int .i64 ns] 23 (0, 0))) (fun v22 _ => n - (intOf v22).toNat)
 case atStart => exact ⟨0, rfl, Nat.zero_le _, ⟨_, fun i hi => by omega, HS0.out⟩, HT2.out⟩
 case round =>
  obtain ⟨k, rfl, hk, ⟨x, hx, hS⟩, hT⟩ := hrel
  have HX := Lib.hid hx
  have HS := Lib.hid hS
  have HT := Lib.hid hT
  clear hx hS hT
  by_cases hkn : k < n
  ·have hkl : k < ms.length := by rw [HN.out]; exact hkn
   obtain ⟨m, hm⟩ : ∃ m, ms[k] = m := ⟨_, rfl⟩
   have hrg : wr.rangeAt g (k * 387) m.cells := by rw [← hm]; exact HS.out.rows k hkl
   have hdm : DelOk m := by rw [← hm]; exact HD.out _ (List.getElem_mem _)
   have hnx : ∀ v, nextR m v = nxtM ms k v := fun v => by unfold nxtM; rw [List.getD_eq_getElem?_getD, List.getElem?_eq_getElem hkl, hm]; rfl
   have HRG := Lib.hid hrg
   have HDM := Lib.hid hdm
   have HNX := Lib.hid hnx
   clear hm hrg hdm hnx
   go_upto_region 7 with (first
    | (refine wpList_load_mid rfl 40 (.tmp 25) rfl g (k * 387) rfl m.cells _ HRG.out Tryz.underlying40 rfl (by rw [CMean.cells_len]; kernel_rfl) ?_)
    | (refine wpList_alloc_mean rfl rfl ?_; intro b11 hg11 w3 hm0 hb3 hlt; have HM0 := Lib.hid hm0; have HB3 := Lib.hid hb3; have HG11 := Lib.hid hg11; clear hm0 hb3 hg11 hlt)
    | (refine wpList_store_mean rfl (.tmp 11) (.tmp 26) rfl b11 CMean.zero m rfl rfl HM0.out ?_; intro w4 hm1 hb4; have HM1 := Lib.hid hm1; have HB4 := Lib.hid (HB3.out.trans (hb4 _ (Nat.le_of_eq HG11.out.symm))); clear hm1 hb4)
    | fail)
   have hT4 := blk_below HT.out HB4.out
   have l0 := blk_cell hT4 0
   have l1 := blk_cell hT4 1
   have HS4 := Lib.hid (HS.out.goes HB4.out)
   have HT4 := Lib.hid hT4
   clear hT4
   go_upto_region 8 with (first
    | (refine wpList_load_mid rfl 40 (.tmp 11) rfl b11 0 rfl m.cells _ HM1.out.range Tryz.underlying40 rfl (by rw [CMean.cells_len]; kernel_rfl) ?_)
    | (go_at_call 12; refine (after_t m HDM.out s ns hs0 (by omega) _).mono ?_; rintro e w5 ⟨⟨r, hr, rfl⟩, hb5⟩; have HR5 := Lib.hid hr; have HS5 := Lib.hid (HS4.out.goes hb5); have HT5 := Lib.hid (blk_below HT4.out hb5); have ht := HS5.out.a.there k hkn; obtain ⟨v0, ca0⟩ := Option.isSome_iff_exists.1 (ht 0 (by decide)).1; obtain ⟨v1, ca1⟩ := Option.isSome_iff_exists.1 (ht 1 (by decide)).1; have da0 := (ht 0 (by decide)).2; have da1 := (ht 1 (by decide)).2; obtain ⟨⟨vz, cz⟩, dz⟩ := HS5.out.z.there k hkn; have hne := HS5.out.ne; rw [Nat.add_zero] at ca0 da0; clear ht hb5 hr))
   go_wp2
   exact ⟨⟨k + 1, rfl, hkn, ⟨upd x k r, fun i hi => by
    unfold upd
    by_cases e : i = k
    ·subst e; rw [if_pos rfl, HR5.out, HNX.out]; rfl
    ·rw [if_neg e]; exact HX.out i (by omega), HS5.out.put k hkn (fun j hj => by omega) r⟩, blk_far (blk_far (blk_far HT5.out (by show w.heap.size ≠ gA; have := HGA.out; omega) _) (by show w.heap.size ≠ gA; have := HGA.out; omega) _) (by show w.heap.size ≠ gZ; have := HGZ.out; omega) _⟩, by simp [intOf]; omega⟩
  ·obtain rfl : k = n := by omega
   go_wp2
   clear HT2 HS0 HT hB0 hT0 HB1 HT1 HB2 HA HA2 HZ HGA HGZ
   go_loopw [7] (fun v7 wr => ∃ (evs : List (Nat × Int)) (x : Sts), evs.length ≤ N ∧ evs ++ mergeL (nxtM ms) k (N - evs.length) x = mergeL (nxtM ms) k N (firstM ms s) ∧ (∀ i, i < k → ∀ v, x i = some v → -62135596800 ≤ v ∧ v ≤ 253402300799 + 4611686019 * ((evs.length : Int) + 1)) ∧ CmT w wr g gA gZ k ms x evs v7) (fun v7 _ => match v7 with | .slice _ n _ => N - n | _ => 0)
   case atStart =>
    refine ⟨[], x, Nat.zero_le _, ?_, fun i hi v hv => ?_, HS.out, RowN.nil _ _ _ _ HS.out.below⟩
    ·rw [List.nil_append]; exact Mrg.mergeL_congr _ _ _ HX.out
    ·rw [HX.out i hi] at hv
     have hl : i < ms.length := by rw [HN.out]; exact hi
     have hb := nextR_bound (HD.out _ (List.getElem_mem hl)) (s := s) (v := v) (by unfold firstM nxtM at hv; rw [List.getD_eq_getElem?_getD, List.getElem?_eq_getElem hl] at hv; exact hv)
     simp; omega
   case round =>
    clear HS HX
    obtain ⟨evs, x, he, hm, hbd, hT⟩ := hrel
    obtain ⟨A7, c7, e7⟩ := hT.row.isSlice
    rw [List.length_map] at e7
    subst e7
    have HT := Lib.hid hT
    have HM := Lib.hid hm
    have HBD := Lib.hid hbd
    obtain ⟨q, hq⟩ : ∃ q, evs.length = q := ⟨_, rfl⟩
    have HQ := Lib.hid hq
    rw [hq] at he
    clear hT hm hbd
    by_cases hqN : q < N
    ·rw [hq]
     clear hq
     go_wp2
     go_loopw [12, 47] (fun v12 v47 wr2 => ∃ j : Nat, v47 = .int .i64 (j : Int) ∧ j ≤ k ∧ v12 = .int .i64 (lv (leastL x j)) ∧ Below wr.heap.size wr wr2) (fun _ v47 _ => k - (intOf v47).toNat)
     case atStart => exact ⟨0, rfl, Nat.zero_le _, rfl, Below.refl _ _⟩
     case round =>
      obtain ⟨j, rfl, hj, rfl, hb⟩ := hrel
      have HBJ := Lib.hid hb
      have HTJ := Lib.hid (HT.out.goes hb)
      clear hb
      by_cases hjk : j < k
      ·have cz := HTJ.out.mem.z.at j hjk
       obtain ⟨ca0, ca1⟩ := HTJ.out.mem.a.at j hjk
       cases hxj : x j with
       | none =>
        have hs : someM x j = false := by unfold someM; rw [hxj]; rfl
        have hl : leastL x (j + 1) = leastL x j := by
         show (match leastL x j with | none => if (x j).isSome then some j else none | some l => if Mrg.ltO (x j) (x l) then some j else some l) = _
         rw [hxj]
         cases leastL x j <;> rfl
        rw [hs] at cz
        have HLJ := Lib.hid hl
        clear hs hl ca0 ca1 hxj
        go_wp2
        go_quiet (fail)
        go_wp2
        exact ⟨⟨j + 1, rfl, hjk, by rw [HLJ.out], pw_below_drewN HBJ.out _⟩, by simp [intOf]; omega⟩
       | some v =>
        have hs : someM x j = true := by unfold someM; rw [hxj]; rfl
        have hv : secM x j = v := by unfold secM; rw [hxj]; rfl
        rw [hs] at cz
        rw [hv] at ca0
        have HSX := Lib.hid hs
        have HVX := Lib.hid hv
        clear hs hv
        cases hll : leastL x j with
        | none =>
         have hl : leastL x (j + 1) = some j := by
          show (match leastL x j with | none => if (x j).isSome then some j else none | some l => if Mrg.ltO (x j) (x l) then some j else some l) = _
          rw [hll, hxj]; rfl
         have HLJ := Lib.hid hl
         clear hl hxj hll
         rw [show lv none = -1 from rfl]
         go_wp2
         go_quiet (fail)
         go_wp2
         exact ⟨⟨j + 1, rfl, hjk, by rw [HLJ.out]; rfl, pw_below_drewN HBJ.out _⟩, by simp [intOf]; omega⟩
        | some l =>
         obtain ⟨hlj, T, hT, -⟩ := Mrg.leastL_some hll
         obtain ⟨cb0, cb1⟩ := HTJ.out.mem.a.at l (by omega)
         have htx : secM x l = T := by unfold secM; rw [hT]; rfl
         rw [htx] at cb0
         have HTX := Lib.hid htx
         clear htx
         have hl : leastL x (j + 1) = if decide (v < T) then some j else some l := by
          show (match leastL x j with | none => if (x j).isSome then some j else none | some l => if Mrg.ltO (x j) (x l) then some j else some l) = _
          rw [hll, hxj]; simp only; rw [hT]; rfl
         obtain ⟨b, hb⟩ : ∃ b, decide (v < T) = b := ⟨_, rfl⟩
         have BF := Lib.hid (fun w => before0_c v T w)
         rw [hb] at hl BF
         have hlk : l < k := by omega
         have HLJ := Lib.hid hl
         clear hl hxj hll hT hb
         rw [show lv (some l) = (l : Int) from rfl]
         go_upto_region 14 with (fail)
         refine wp_region_det (F := ?FL) (by kernel_rfl) 103 rfl 19 [(50, .slice (some ⟨gZ, 0, none⟩) k k), (51, .int .i64 (j : Int)), (52, .pointer (some ⟨gZ, j, none⟩)), (53, .bool true), (54, .bool true), (55, .int .i64 (l : Int)), (56, .bool false), (57, .bool false), (58, .slice (some ⟨gA, 0, none⟩) k k), (59, .int .i64 (j : Int)), (60, .pointer (some ⟨gA, j * 2, none⟩)), (61, .agg #[.int .i64 v, .int .i64 0]), (62, .slice (some ⟨gA, 0, none⟩) k k), (63, .int .i64 (l : Int)), (64, .pointer (some ⟨gA, l * 2, none⟩)), (65, .agg #[.int .i64 T, .int .i64 0]), (66, .bool b), (67, .bool b), (68, .bool b)] ?hFL (by kernel_rfl) (fun w' => CmT w w' g gA gZ k ms x evs (.slice A7 evs.length c7) ∧ Below wr.heap.size wr w') (fun _ _ h hb => ⟨h.1.goes hb, below_step h.2 hb⟩) ⟨HTJ.out.goes (Below.refl _ _).drew, (Below.refl _ _).drew⟩ ?_ ?_
         case hFL =>
          simp only [List.foldl_cons, List.foldl_nil, List.setIfInBounds_toArray, List.set_cons_zero, List.set_cons_succ]
          rfl
         ·clear cz ca0 ca1 cb0 cb1
          and_intros
          all_goals first | exact trivial | intro _ w3 h3
          all_goals
           have z0 := h3.1.mem.z.at j hjk
           rw [HSX.out] at z0
           obtain ⟨y0, y1⟩ := h3.1.mem.a.at j hjk
           obtain ⟨x0, x1⟩ := h3.1.mem.a.at l hlk
           rw [HVX.out] at y0
           rw [HTX.out] at x0
           have hb := Below.refl w3.heap.size w3
           clear h3
           first
           | (change Oper.wp _ _ _ _ _ _; go_simp)
           | (change (_ = _ → Oper.wp _ _ _ _ _ _) ∧ _; refine ⟨fun _ => ?_, fun h => absurd rfl h⟩; go_simp)
          refine (BF.out _).mono ?_
          rintro e w4 ⟨rfl, hb⟩
          exact ⟨rfl, hb⟩
         ·intro w9 h9
          show Exit.then _ _ .normal _ w9
          have HB9 := Lib.hid (below_step HBJ.out h9.2)
          clear h9 cz ca0 ca1 cb0 cb1
          cases b
          all_goals
           go_wp2
           exact ⟨⟨j + 1, rfl, hjk, by rw [HLJ.out]; rfl, HB9.out⟩, by simp [intOf]; omega⟩
      ·obtain rfl : j = k := by omega
       cases hll : leastL x j with
       | none =>
        have hfin : evs = mergeL (nxtM ms) j N (firstM ms s) := by
         have hm := HM.out
         obtain ⟨d, hd⟩ : ∃ d, N - evs.length = d + 1 := ⟨N - evs.length - 1, by have := HQ.out; omega⟩
         rw [hd] at hm
         rw [← hm]
         show evs = evs ++ (match leastL x j with | none => [] | some i => _)
         rw [hll, List.append_nil]
        have HF := Lib.hid hfin
        clear hfin hll
        rw [show lv none = -1 from rfl]
        go_wp2
        go_ret
        exact ⟨_, rfl, by rw [← HF.out]; have h := HTJ.out.row; rw [HQ.out] at h; exact h⟩
       | some l =>
        obtain ⟨hlj, T, hT, hTm⟩ := Mrg.leastL_some hll
        obtain ⟨cb0, cb1⟩ := HTJ.out.mem.a.at l hlj
        have htx : secM x l = T := by unfold secM; rw [hT]; rfl
        rw [htx] at cb0
        have HTX := Lib.hid htx
        have HLL := Lib.hid hll
        have HTV := Lib.hid hT
        clear htx hll hT hTm
        rw [show lv (some l) = (l : Int) from rfl]
        obtain ⟨m, hm⟩ : ∃ m, ms[l]'(by rw [HN.out]; exact hlj) = m := ⟨_, rfl⟩
        have hdm : DelOk m := by rw [← hm]; exact HD.out _ (List.getElem_mem _)
        obtain ⟨r, hr⟩ : ∃ r, nextR m T = r := ⟨_, rfl⟩
        have hnx : nxtM ms l T = r := by unfold nxtM; rw [List.getD_eq_getElem?_getD, List.getElem?_eq_getElem (show l < ms.length by rw [HN.out]; exact hlj), hm]; exact hr
        have hTB := HBD.out l hlj T HTV.out
        rw [HQ.out] at hTB
        have HTB := Lib.hid hTB
        obtain ⟨hT0, hT1⟩ := hTB
        replace hT1 : T ≤ 700000000000 := by omega
        have HML := Lib.hid hm
        have HDM := Lib.hid hdm
        have HRR := Lib.hid hr
        have HNX := Lib.hid hnx
        have htq := HTJ.out
        rw [HQ.out] at htq
        have HTQ := Lib.hid htq
        have HLE := Lib.hid (show (evs.map evCells).length ≤ 1000 by rw [List.length_map, HQ.out]; omega)
        clear hm hdm hr hnx htq
        go_upto_region 20 with (first
         | (refine wpList_rowN elem66 (HTQ.out.row.goes (below_alloc (Below.refl _ _) (.cells #[.int .i64 (l : Int), .int .i64 T, .int .i64 0] 66))) rfl _ _ rfl rfl wr.heap.size 1 (evCells (l, T)) rfl rfl (by intro j' hj'; rcases (show j' = 0 ∨ j' = 1 ∨ j' = 2 by simp [evCells] at hj'; omega) with rfl | rfl | rfl <;> simp [go_sem, evCells]) (by intro x hx; simp [evCells] at hx; rcases hx with rfl | rfl | rfl <;> rfl) HLE.out ?_; intro v7 w7 hr7 hg7; have HT7 := Lib.hid ((HTQ.out.goes (below_alloc (Below.refl _ _) (.cells #[.int .i64 (l : Int), .int .i64 T, .int .i64 0] 66))).app (e := (l, T)) hr7 hg7); clear hr7 hg7))
        clear cb0 cb1
        have hoth : ∀ (n : Nat) (L : Nat → Prop) (w' : World), n ≠ 18 → ((L 18 → CmU w w' g gA gZ j ms (upd x l r) x (evs ++ [(l, T)]) v7) ∧ (¬ L 18 → CmU w w' g gA gZ j ms x x (evs ++ [(l, T)]) v7)) →
          (((fun j => j = n ∨ L j) 18 → CmU w w' g gA gZ j ms (upd x l r) x (evs ++ [(l, T)]) v7) ∧ (¬ (fun j => j = n ∨ L j) 18 → CmU w w' g gA gZ j ms x x (evs ++ [(l, T)]) v7)) :=
         fun n L w' hn h => ⟨fun hl => h.1 (hl.resolve_left (Ne.symm hn)), fun hl => h.2 (fun h6 => hl (.inr h6))⟩
        have hgo : ∀ (L : Nat → Prop) (w' w'' : World), ((L 18 → CmU w w' g gA gZ j ms (upd x l r) x (evs ++ [(l, T)]) v7) ∧ (¬ L 18 → CmU w w' g gA gZ j ms x x (evs ++ [(l, T)]) v7)) → Below w'.heap.size w' w'' →
          ((L 18 → CmU w w'' g gA gZ j ms (upd x l r) x (evs ++ [(l, T)]) v7) ∧ (¬ L 18 → CmU w w'' g gA gZ j ms x x (evs ++ [(l, T)]) v7)) :=
         fun L w' w'' h hb => ⟨fun hl => (h.1 hl).goes hb, fun hl => (h.2 hl).goes hb⟩
        refine wp_region_ghost (Γ := Unit) (by kernel_rfl) 103 rfl 20 (fun _ j' v _ => match j' with | 0 => v = .slice (some ⟨gA, 0, none⟩) j j | 1 => v = .int .i64 (l : Int) | 2 => v = .slice (some ⟨gZ, 0, none⟩) j j | 3 => v = .int .i64 (l : Int) | 4 => v = .slice (some ⟨g, 0, none⟩) j c | 5 => v = .int .i64 (l : Int) | 6 => v = .pointer (some ⟨g, l * 387, none⟩) | 7 => v = .agg m.cells.toArray | 8 => v = .slice (some ⟨gA, 0, none⟩) j j | 9 => v = .int .i64 (l : Int) | 10 => v = .pointer (some ⟨gA, l * 2, none⟩) | 11 => v = .agg #[.int .i64 T, .int .i64 0] | 12 => v = zUTC | 13 => v = .tuple #[.agg #[.int .i64 (r.getD 0), .int .i64 0], .bool r.isSome] | 14 => v = .tuple #[.agg #[.int .i64 (r.getD 0), .int .i64 0], .bool r.isSome] | 15 => v = .agg #[.int .i64 (r.getD 0), .int .i64 0] | 16 => v = .bool r.isSome | 17 => v = .pointer (some ⟨gA, l * 2, none⟩) | 19 => v = .pointer (some ⟨gZ, l, none⟩) | _ => True)
         (fun _ L w' => (L 18 → CmU w w' g gA gZ j ms (upd x l r) x (evs ++ [(l, T)]) v7) ∧ (¬ L 18 → CmU w w' g gA gZ j ms x x (evs ++ [(l, T)]) v7)) ()
         (by kernel_rfl) (by kernel_rfl) (by kernel_rfl) (by kernel_rfl) (by kernel_rfl) ⟨fun h => h.elim, fun _ => HT7.out.u.goes (Below.refl _ _).drew⟩ ?_ ?_
        ·refine ⟨fun _ γ a w6 L hs' hA hnL hd hcl hO => ?_, fun _ γ a w6 L hs' hA hnL hd hcl hO => ?_, fun _ γ a w6 L hs' hA hnL hd hcl hO => ?_, fun _ γ a w6 L hs' hA hnL hd hcl hO => ?_, fun _ γ a w6 L hs' hA hnL hd hcl hO => ?_, fun _ γ a w6 L hs' hA hnL hd hcl hO => ?_, fun _ γ a w6 L hs' hA hnL hd hcl hO => ?_, fun _ γ a w6 L hs' hA hnL hd hcl hO => ?_, fun _ γ a w6 L hs' hA hnL hd hcl hO => ?_, fun _ γ a w6 L hs' hA hnL hd hcl hO => ?_, fun _ γ a w6 L hs' hA hnL hd hcl hO => ?_, fun _ γ a w6 L hs' hA hnL hd hcl hO => ?_, fun _ γ a w6 L hs' hA hnL hd hcl hO => ?_, fun _ γ a w6 L hs' hA hnL hd hcl hO => ?_, fun _ γ a w6 L hs' hA hnL hd hcl hO => ?_, fun _ γ a w6 L hs' hA hnL hd hcl hO => ?_, fun _ γ a w6 L hs' hA hnL hd hcl hO => ?_, fun _ γ a w6 L hs' hA hnL hd hcl hO => ?_, fun _ γ a w6 L hs' hA hnL hd hcl hO => ?_, fun _ γ a w6 L hs' hA hnL hd hcl hO => ?_, fun h => absurd rfl h, trivial⟩
         ·have e8 : a.tmps.getD 8 undef = .slice (some ⟨gA, 0, none⟩) j j := hA.old' 8
          clear hA
          refine Region.StepG.pure (X := .slice (some ⟨gA, 0, none⟩) j j) rfl ?_ rfl (hoth _ _ _ (by decide) hs')
          go_simp
         ·have e12 : a.tmps.getD 12 undef = .int .i64 (l : Int) := hA.old' 12
          clear hA
          refine Region.StepG.pure (X := .int .i64 (l : Int)) rfl ?_ rfl (hoth _ _ _ (by decide) hs')
          go_simp
         ·have e9 : a.tmps.getD 9 undef = .slice (some ⟨gZ, 0, none⟩) j j := hA.old' 9
          clear hA
          refine Region.StepG.pure (X := .slice (some ⟨gZ, 0, none⟩) j j) rfl ?_ rfl (hoth _ _ _ (by decide) hs')
          go_simp
         ·have e12 : a.tmps.getD 12 undef = .int .i64 (l : Int) := hA.old' 12
          clear hA
          refine Region.StepG.pure (X := .int .i64 (l : Int)) rfl ?_ rfl (hoth _ _ _ (by decide) hs')
          go_simp
         ·have e0 : a.tmps.getD 0 undef = .slice (some ⟨g, 0, none⟩) j c := hA.old' 0
          clear hA
          refine Region.StepG.pure (X := .slice (some ⟨g, 0, none⟩) j c) rfl ?_ rfl (hoth _ _ _ (by decide) hs')
          go_simp
         ·have e12 : a.tmps.getD 12 undef = .int .i64 (l : Int) := hA.old' 12
          clear hA
          refine Region.StepG.pure (X := .int .i64 (l : Int)) rfl ?_ rfl (hoth _ _ _ (by decide) hs')
          go_simp
         ·have e88 : a.tmps.getD 88 undef = .slice (some ⟨g, 0, none⟩) j c := hA.gotL hd 4 88
          have e89 : a.tmps.getD 89 undef = .int .i64 (l : Int) := hA.gotL hd 5 89
          clear hA
          refine Region.StepG.pure (X := .pointer (some ⟨g, l * 387, none⟩)) rfl ?_ rfl (hoth _ _ _ (by decide) hs')
          go_simp
         ·have e90 : a.tmps.getD 90 undef = .pointer (some ⟨g, l * 387, none⟩) := hA.gotL hd 6 90
          have hn18 : ¬ L 18 := fun h => hnL (hcl 13 (hcl 14 (hcl 15 (hcl 18 h 15 (by decide)) 14 (by decide)) 13 (by decide)) 7 (by decide))
          have hr := (hs'.2 hn18).rows l (by rw [HN.out]; exact hlj)
          rw [HML.out] at hr
          show Oper.wp _ _ _ _ _ _
          exact wp_load_mid 40 (.tmp 90) rfl g (l * 387) (by simpa [Act.eval] using e90) m.cells _ hr Tryz.underlying40 rfl (by rw [CMean.cells_len]; kernel_rfl) ⟨_, (), rfl, rfl, hoth _ _ _ (by decide) hs', fun j t _ _ h => h⟩
         ·have e8 : a.tmps.getD 8 undef = .slice (some ⟨gA, 0, none⟩) j j := hA.old' 8
          clear hA
          refine Region.StepG.pure (X := .slice (some ⟨gA, 0, none⟩) j j) rfl ?_ rfl (hoth _ _ _ (by decide) hs')
          go_simp
         ·have e12 : a.tmps.getD 12 undef = .int .i64 (l : Int) := hA.old' 12
          clear hA
          refine Region.StepG.pure (X := .int .i64 (l : Int)) rfl ?_ rfl (hoth _ _ _ (by decide) hs')
          go_simp
         ·have e92 : a.tmps.getD 92 undef = .slice (some ⟨gA, 0, none⟩) j j := hA.gotL hd 8 92
          have e93 : a.tmps.getD 93 undef = .int .i64 (l : Int) := hA.gotL hd 9 93
          clear hA
          refine Region.StepG.pure (X := .pointer (some ⟨gA, l * 2, none⟩)) rfl ?_ rfl (hoth _ _ _ (by decide) hs')
          go_simp
         ·have e94 : a.tmps.getD 94 undef = .pointer (some ⟨gA, l * 2, none⟩) := hA.gotL hd 10 94
          have hn18 : ¬ L 18 := fun h => hnL (hcl 13 (hcl 14 (hcl 15 (hcl 18 h 15 (by decide)) 14 (by decide)) 13 (by decide)) 11 (by decide))
          obtain ⟨y0, y1⟩ := (hs'.2 hn18).a.at l hlj
          rw [HTX.out] at y0
          clear hA
          refine Region.StepG.pure (X := .agg #[.int .i64 T, .int .i64 0]) rfl ?_ rfl (hoth _ _ _ (by decide) hs')
          go_simp
         ·clear hA
          refine Region.StepG.pure (X := zUTC) rfl ?_ rfl (hoth _ _ _ (by decide) hs')
          go_simp
         ·have e91 : a.tmps.getD 91 undef = .agg m.cells.toArray := hA.gotL hd 7 91
          have e95 : a.tmps.getD 95 undef = .agg #[.int .i64 T, .int .i64 0] := hA.gotL hd 11 95
          have e96 : a.tmps.getD 96 undef = zUTC := hA.gotL hd 12 96
          clear hA
          show Oper.wp _ _ _ _ _ _
          go_simp
          refine (after_t m HDM.out T 0 hT0 hT1 _).mono ?_
          rintro e w7 ⟨⟨r', hr', rfl⟩, hb7⟩
          rw [HRR.out] at hr'
          subst hr'
          exact ⟨_, rfl, rfl, hgo _ _ _ hs' hb7⟩
         ·have e97 : a.tmps.getD 97 undef = .tuple #[.agg #[.int .i64 (r.getD 0), .int .i64 0], .bool r.isSome] := hA.gotL hd 13 97
          clear hA
          refine Region.StepG.pure (X := .tuple #[.agg #[.int .i64 (r.getD 0), .int .i64 0], .bool r.isSome]) rfl ?_ rfl (hoth _ _ _ (by decide) hs')
          go_simp
         ·have e83 : a.tmps.getD 83 undef = .tuple #[.agg #[.int .i64 (r.getD 0), .int .i64 0], .bool r.isSome] := hA.gotL hd 14 83
          clear hA
          refine Region.StepG.pure (X := .agg #[.int .i64 (r.getD 0), .int .i64 0]) rfl ?_ rfl (hoth _ _ _ (by decide) hs')
          go_simp
         ·have e83 : a.tmps.getD 83 undef = .tuple #[.agg #[.int .i64 (r.getD 0), .int .i64 0], .bool r.isSome] := hA.gotL hd 14 83
          clear hA
          refine Region.StepG.pure (X := .bool r.isSome) rfl ?_ rfl (hoth _ _ _ (by decide) hs')
          go_simp
         ·have e84 : a.tmps.getD 84 undef = .slice (some ⟨gA, 0, none⟩) j j := hA.gotL hd 0 84
          have e85 : a.tmps.getD 85 undef = .int .i64 (l : Int) := hA.gotL hd 1 85
          clear hA
          refine Region.StepG.pure (X := .pointer (some ⟨gA, l * 2, none⟩)) rfl ?_ rfl (hoth _ _ _ (by decide) hs')
          go_simp
         ·have e100 : a.tmps.getD 100 undef = .pointer (some ⟨gA, l * 2, none⟩) := hA.gotL hd 17 100
          have e98 : a.tmps.getD 98 undef = .agg #[.int .i64 (r.getD 0), .int .i64 0] := hA.gotL hd 15 98
          have h0 := hs'.2 hnL
          have ht := h0.a.there l hlj
          obtain ⟨q0, ca0⟩ := Option.isSome_iff_exists.1 (ht 0 (by decide)).1
          obtain ⟨q1, ca1⟩ := Option.isSome_iff_exists.1 (ht 1 (by decide)).1
          have da0 := (ht 0 (by decide)).2
          have da1 := (ht 1 (by decide)).2
          rw [Nat.add_zero] at ca0 da0
          clear hA ht
          show Oper.wp _ _ _ _ _ _
          go_simp
          exact h0.putA l hlj r
         ·have e86 : a.tmps.getD 86 undef = .slice (some ⟨gZ, 0, none⟩) j j := hA.gotL hd 2 86
          have e87 : a.tmps.getD 87 undef = .int .i64 (l : Int) := hA.gotL hd 3 87
          clear hA
          refine Region.StepG.pure (X := .pointer (some ⟨gZ, l, none⟩)) rfl ?_ rfl (hoth _ _ _ (by decide) hs')
          go_simp
        ·intro γ a w8 L hs' hall hO hA
         have hm1 := hs'.1 (hall 18 (by decide) (by decide))
         have HM1 := Lib.hid hm1
         obtain ⟨⟨vz, cz⟩, dz⟩ := hm1.z.there l hlj
         clear hm1 hs' hall hO hoth hgo
         have f84 : a.tmps.getD 84 undef = .slice (some ⟨gA, 0, none⟩) j j := hA.end' 0 84
         have f85 : a.tmps.getD 85 undef = .int .i64 (l : Int) := hA.end' 1 85
         have f86 : a.tmps.getD 86 undef = .slice (some ⟨gZ, 0, none⟩) j j := hA.end' 2 86
         have f87 : a.tmps.getD 87 undef = .int .i64 (l : Int) := hA.end' 3 87
         have f88 : a.tmps.getD 88 undef = .slice (some ⟨g, 0, none⟩) j c := hA.end' 4 88
         have f89 : a.tmps.getD 89 undef = .int .i64 (l : Int) := hA.end' 5 89
         have f90 : a.tmps.getD 90 undef = .pointer (some ⟨g, l * 387, none⟩) := hA.end' 6 90
         have f91 : a.tmps.getD 91 undef = .agg m.cells.toArray := hA.end' 7 91
         have f92 : a.tmps.getD 92 undef = .slice (some ⟨gA, 0, none⟩) j j := hA.end' 8 92
         have f93 : a.tmps.getD 93 undef = .int .i64 (l : Int) := hA.end' 9 93
         have f94 : a.tmps.getD 94 undef = .pointer (some ⟨gA, l * 2, none⟩) := hA.end' 10 94
         have f95 : a.tmps.getD 95 undef = .agg #[.int .i64 T, .int .i64 0] := hA.end' 11 95
         have f96 : a.tmps.getD 96 undef = zUTC := hA.end' 12 96
         have f97 : a.tmps.getD 97 undef = .tuple #[.agg #[.int .i64 (r.getD 0), .int .i64 0], .bool r.isSome] := hA.end' 13 97
         have f83 : a.tmps.getD 83 undef = .tuple #[.agg #[.int .i64 (r.getD 0), .int .i64 0], .bool r.isSome] := hA.end' 14 83
         have f98 : a.tmps.getD 98 undef = .agg #[.int .i64 (r.getD 0), .int .i64 0] := hA.end' 15 98
         have f99 : a.tmps.getD 99 undef = .bool r.isSome := hA.end' 16 99
         have f100 : a.tmps.getD 100 undef = .pointer (some ⟨gA, l * 2, none⟩) := hA.end' 17 100
         have f101 : a.tmps.getD 101 undef = .pointer (some ⟨gZ, l, none⟩) := hA.end' 19 101
         have hfr := hA.frame [(84, .slice (some ⟨gA, 0, none⟩) j j), (85, .int .i64 (l : Int)), (86, .slice (some ⟨gZ, 0, none⟩) j j), (87, .int .i64 (l : Int)), (88, .slice (some ⟨g, 0, none⟩) j c), (89, .int .i64 (l : Int)), (90, .pointer (some ⟨g, l * 387, none⟩)), (91, .agg m.cells.toArray), (92, .slice (some ⟨gA, 0, none⟩) j j), (93, .int .i64 (l : Int)), (94, .pointer (some ⟨gA, l * 2, none⟩)), (95, .agg #[.int .i64 T, .int .i64 0]), (96, zUTC), (97, .tuple #[.agg #[.int .i64 (r.getD 0), .int .i64 0], .bool r.isSome]), (83, .tuple #[.agg #[.int .i64 (r.getD 0), .int .i64 0], .bool r.isSome]), (98, .agg #[.int .i64 (r.getD 0), .int .i64 0]), (99, .bool r.isSome), (100, .pointer (some ⟨gA, l * 2, none⟩)), (101, .pointer (some ⟨gZ, l, none⟩))] (List.forall_mem_cons.2 ⟨f84, List.forall_mem_cons.2 ⟨f85, List.forall_mem_cons.2 ⟨f86, List.forall_mem_cons.2 ⟨f87, List.forall_mem_cons.2 ⟨f88, List.forall_mem_cons.2 ⟨f89, List.forall_mem_cons.2 ⟨f90, List.forall_mem_cons.2 ⟨f91, List.forall_mem_cons.2 ⟨f92, List.forall_mem_cons.2 ⟨f93, List.forall_mem_cons.2 ⟨f94, List.forall_mem_cons.2 ⟨f95, List.forall_mem_cons.2 ⟨f96, List.forall_mem_cons.2 ⟨f97, List.forall_mem_cons.2 ⟨f83, List.forall_mem_cons.2 ⟨f98, List.forall_mem_cons.2 ⟨f99, List.forall_mem_cons.2 ⟨f100, List.forall_mem_cons.2 ⟨f101, fun _ h => absurd h List.not_mem_nil⟩⟩⟩⟩⟩⟩⟩⟩⟩⟩⟩⟩⟩⟩⟩⟩⟩⟩⟩) (by kernel_rfl)
         clear f84 f85 f86 f87 f88 f89 f90 f91 f92 f93 f94 f95 f96 f97 f83 f98 f99 f100 f101
         clear hA
         clear L
         subst hfr
         simp only [List.foldl_cons, List.foldl_nil]
         simp only [List.setIfInBounds_toArray, List.set_cons_zero, List.set_cons_succ]
         show Oper.wp _ _ _ _ _ _
         go_wp2
         have hm := HM.out
         obtain ⟨d, hd⟩ : ∃ d, N - evs.length = d + 1 := ⟨N - evs.length - 1, by have := HQ.out; omega⟩
         have hd2 : N - (evs ++ [(l, T)]).length = d := by rw [List.length_append, List.length_singleton]; omega
         have hq1 : (evs ++ [(l, T)]).length = q + 1 := by rw [List.length_append, HQ.out]; rfl
         have hmm : mergeL (nxtM ms) j (d + 1) x = (l, T) :: mergeL (nxtM ms) j d (upd x l r) := by
          show (match leastL x j with | none => [] | some i => (i, (x i).getD 0) :: mergeL (nxtM ms) j d (upd x i (nxtM ms i ((x i).getD 0)))) = _
          rw [HLL.out]
          simp only
          rw [HTV.out, Option.getD_some, HNX.out]
         obtain ⟨A8, c8, e8⟩ := HM1.out.row.isSlice
         rw [List.length_map, hq1] at e8
         have hT8 := (HM1.out.putZ l hlj r).t
         refine ⟨⟨evs ++ [(l, T)], upd x l r, by rw [hq1]; exact hqN, ?_, fun i hi v hv => ?_, hT8⟩, ?_⟩
         ·rw [hd2, ← hm, hd, hmm, List.append_assoc]; rfl
         ·rw [hq1]
          unfold upd at hv
          by_cases e : i = l
          ·rw [if_pos e] at hv
           have h1 := nextR_bound HDM.out (s := T) (v := v) (by rw [HRR.out]; exact hv)
           have h2 := HTB.out
           push_cast
           omega
          ·rw [if_neg e] at hv
           have h1 := HBD.out i hi v hv
           rw [HQ.out] at h1
           push_cast
           omega
         ·rw [e8]
          show N - (q + 1) < N - q
          omega
    ·have hqe : q = N := by omega
     rw [hq]
     clear hq
     have hfin : evs = mergeL (nxtM ms) k N (firstM ms s) := by
      have hm := HM.out
      rw [show N - evs.length = 0 by have := HQ.out; omega] at hm
      rw [← hm]
      show evs = evs ++ []
      rw [List.append_nil]
     have HF := Lib.hid hfin
     clear hfin
     go_wp2
     go_ret
     exact ⟨_, rfl, by rw [← HF.out]; have h := HT.out.row; rw [HQ.out] at h; exact h⟩
end Go.Proofs.YtcjdideliifkhaaGreatDoor
