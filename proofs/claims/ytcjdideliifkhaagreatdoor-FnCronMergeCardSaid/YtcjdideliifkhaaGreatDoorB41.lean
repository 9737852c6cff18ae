import Derived.Great.BuildSlice
import Derived.Test.YtcjdideliifkhaaGreatDoorB40
set_option maxRecDepth 100000
set_option maxHeartbeats 16000000
namespace Go.Proofs.YtcjdideliifkhaaGreatDoor
open Go.RowKit Go.Proofs.YtcjdideliifkhaaGreatDoorW.PrintWords Go.Proofs.YtcjdideliifkhaaGreatDoorW.PrintLast Go.Proofs.YtcjdideliifkhaaGreatDoorW.PrintMore PFnCronTextAfterAnywhere
set_option linter.unusedVariables false
set_option linter.unusedSimpArgs false
abbrev Nx := Int × Int × Bool
def Nx.tm (x : Nx) : Tm := if x.2.2 then (0, 0) else (x.2.1, x.1 + 62135596800)
def Nx.Ok (x : Nx) : Prop := x.2.2 = false → 0 ≤ x.2.1 ∧ x.2.1 < 1000000000 ∧ -4611686018427387904 ≤ x.1 ∧ x.1 ≤ 4611686018427387904
def NxRow (w : World) (g : Nat) (n : Nat) (S : Nat → Nx) : Prop := ∀ i, i < n → w.cell? ⟨g, i * 2, none⟩ = some (.int .i64 (S i).1) ∧ w.cell? ⟨g, i * 2 + 1, none⟩ = some (.int .i64 (S i).2.1)
def ZrRow (w : World) (g : Nat) (n : Nat) (S : Nat → Nx) : Prop := ∀ i, i < n → w.cell? ⟨g, i, none⟩ = some (.bool (S i).2.2)
theorem NxRow.goes {w w' : World} {g n : Nat} {S : Nat → Nx} (h : NxRow w g n S) (hb : Below w.heap.size w w') : NxRow w' g n S := fun i hi => ⟨pw_cell_below hb (h i hi).1, pw_cell_below hb (h i hi).2⟩
theorem ZrRow.goes {w w' : World} {g n : Nat} {S : Nat → Nx} (h : ZrRow w g n S) (hb : Below w.heap.size w w') : ZrRow w' g n S := fun i hi => pw_cell_below hb (h i hi)
def tmCells (t : Tm) : List Value := [.int .u64 t.1, .int .i64 t.2, .pointer none]
abbrev TimS (w0 w : World) (S : Nat → Nx) (k : Nat) (v : Value) : Prop := RowN w0 w 90 3 v ((List.range k).map fun i => tmCells (S i).tm)
def EbV (u5 : Value) (s ns : Int) (γ : Option Value) (j : Nat) (v : Value) (w : World) : Prop :=
 match γ, j with
 | none, 0 => v = u5
 | none, 1 => v = .agg #[.int .i64 s, .int .i64 ns]
 | none, 2 => ∃ u, v = .pointer (some ⟨u, 0, none⟩) ∧ IsUTC w u
 | none, 3 => v = tm ns (s + 62135596800) (.pointer none)
 | none, 4 => ∃ b, v = .slice (some ⟨b, 0, none⟩) 1 1 ∧ ∀ j (h : j < (tmCells (ns, s + 62135596800)).length), w.cell? ⟨b, j, none⟩ = some ((tmCells (ns, s + 62135596800))[j])
 | some v', 5 => v = v'
 | _, _ => True
structure EbS (w0 : World) (S : Nat → Nx) (k tb : Nat) (u5 : Value) (s ns : Int) (γ : Option Value) (L : Nat → Prop) (w : World) : Prop where
 ahead : γ = none → ¬ L 5 ∧ TimS w0 w S k u5 ∧ w.heap[tb]? = some (.cells #[.int .i64 s, .int .i64 ns] 23 (0, 0))
 behind : ∀ v', γ = some v' → L 5 ∧ TimS w0 w S (k + 1) v'
theorem EbS.other {w0 w : World} {S : Nat → Nx} {k tb : Nat} {u5 : Value} {s ns : Int} {γ : Option Value} {L : Nat → Prop} (h : EbS w0 S k tb u5 s ns γ L w) {n : Nat} (hn : 5 ≠ n) {w' : World} (hb : Below w.heap.size w w') : EbS w0 S k tb u5 s ns γ (fun j => j = n ∨ L j) w' :=
 ⟨fun e => by obtain ⟨h1, h2, h3⟩ := h.ahead e; exact ⟨fun e => e.elim (fun e => hn e) h1, h2.goes hb, blk_below h3 hb⟩, fun v' e => by obtain ⟨h1, h2⟩ := h.behind v' e; exact ⟨.inr h1, h2.goes hb⟩⟩
theorem EbV.keep {u5 : Value} {s ns : Int} {γ : Option Value} {j : Nat} {v : Value} {w w' : World} (hb : Below w.heap.size w w') (h : EbV u5 s ns γ j v w) : EbV u5 s ns γ j v w' := by
 match γ, j, h with
 | none, 0, h => exact h
 | none, 1, h => exact h
 | none, 2, ⟨u, h1, h2⟩ => exact ⟨u, h1, h2.below hb⟩
 | none, 3, h => exact h
 | none, 4, ⟨b, h1, h2⟩ => exact ⟨b, h1, fun j hj => pw_cell_below hb (h2 j hj)⟩
 | none, _ + 5, h => trivial
 | some v', 0, h => trivial
 | some v', 1, h => trivial
 | some v', 2, h => trivial
 | some v', 3, h => trivial
 | some v', 4, h => trivial
 | some v', 5, h => exact h
 | some v', _ + 6, h => trivial
theorem EbV.gone {u5 : Value} {s ns : Int} {v' : Value} {j : Nat} {v : Value} {w : World} (hj : j ≠ 5) : EbV u5 s ns (some v') j v w := by
 match j, hj with
 | 0, _ => trivial
 | 1, _ => trivial
 | 2, _ => trivial
 | 3, _ => trivial
 | 4, _ => trivial
 | 5, h => exact absurd rfl h
 | _ + 6, _ => trivial
theorem EbS.fresh {w0 w : World} {S : Nat → Nx} {k tb : Nat} {u5 : Value} {s ns : Int} {γ : Option Value} {L : Nat → Prop} (h : EbS w0 S k tb u5 s ns γ L w) (h5 : ¬ L 5) : γ = none := by
 cases γ with
 | none => rfl
 | some v' => exact absurd (h.behind v' rfl).1 h5
theorem entries_c (g c z cz n : Nat) (S : Nat → Nx) (hn0 : 0 < n) (hn : n ≤ 5) (hok : ∀ i, i < n → (S i).Ok) (w : World) (hN : NxRow w g n S) (hZ : ZrRow w z n S) :
  Calls Tryz.prog 20 #[.slice (some ⟨g, 0, none⟩) n c, .slice (some ⟨z, 0, none⟩) n cz] w fun e w' => (∃ A c', ∃ k : Nat, k < n ∧ e = .returned (.slice (some ⟨A, 0, none⟩) n c') ∧ w'.cell? ⟨A, 0, none⟩ = some (.int .i64 (k : Int)) ∧ ∀ j, j < n → lessT (S j).tm (S k).tm = false) ∧ Below w.heap.size w w' := by
 go_enter Tryz.func20, Tryz.ntmps20
 go_wp2
 go_loopw [5, 10] (fun v5 v10 wr => ∃ k : Nat, v10 = .int .i64 (k : Int) ∧ k ≤ n ∧ TimS w wr S k v5) (fun _ v10 _ => n - (intOf v10).toNat)
 case atStart => exact ⟨0, rfl, Nat.zero_le _, RowN.nil _ _ _ _ (Below.refl _ _)⟩
 case round =>
  obtain ⟨k, rfl, hle, hT⟩ := hrel
  by_cases hlt : k < n
  ·obtain ⟨c0, c1⟩ := hN.goes hT.below k hlt
   have c2 := hZ.goes hT.below k hlt
   have hk := hok k hlt
   obtain ⟨s, ns, b, hS⟩ : ∃ s ns b, S k = (s, ns, b) := ⟨_, _, _, rfl⟩
   rw [hS] at c0 c1 c2 hk
   simp only [] at c0 c1 c2
   have HS := Lib.hid hS
   have HK := Lib.hid hk
   have HT := Lib.hid hT
   have c3 : (wr.alloc (.cells #[.int .i64 s, .int .i64 ns] 23)).cell? ⟨z, k, none⟩ = some (.bool b) := pw_cell_below (below_alloc (Below.refl _ _) _) c2
   clear hS hk hT
   have hlen : ∀ k : Nat, ((List.range k).map fun i => tmCells (S i).tm).length = k := fun k => by simp
   have hnext : ((List.range (k + 1)).map fun i => tmCells (S i).tm) = ((List.range k).map fun i => tmCells (S i).tm) ++ [tmCells (Nx.tm (s, ns, b))] := by rw [List.range_succ, List.map_append, ← HS.out]; rfl
   have HN := Lib.hid hnext
   have HL := Lib.hid hlen
   clear hlen hnext
   cases b
   ·obtain ⟨k0, k1, k2, k3⟩ := HK.out rfl
    have M := Lib.hid (fun u w hu => moment_utc s ns k0 k1 k2 k3 u w hu)
    go_upto_region 7 with (fail)
    have hS0 : EbS w S k wr.heap.size u5 s ns none (fun _ => False) (wr.alloc (.cells #[.int .i64 s, .int .i64 ns] 23)).drew :=
     ⟨fun _ => ⟨fun h => h, HT.out.goes (below_alloc (Below.refl _ _) _).drew, blk_new wr _⟩, fun v' e => by cases e⟩
    have HS0 := Lib.hid hS0
    clear c0 c1 c2 c3 hS0
    refine wp_region_ghost (by kernel_rfl) 32 rfl 6 (EbV u5 s ns) (EbS w S k wr.heap.size u5 s ns) none (by kernel_rfl) (by kernel_rfl) (by kernel_rfl) (by kernel_rfl) (by kernel_rfl) HS0.out ?_ ?_
    ·refine ⟨fun _ γ a w6 L hs' hA hnL hd hcl hO => ?_, fun _ γ a w6 L hs' hA hnL hd hcl hO => ?_, fun _ γ a w6 L hs' hA hnL hd hcl hO => ?_, fun _ γ a w6 L hs' hA hnL hd hcl hO => ?_, fun _ γ a w6 L hs' hA hnL hd hcl hO => ?_, fun _ γ a w6 L hs' hA hnL hd hcl hO => ?_, fun h => absurd rfl h, trivial⟩
     ·obtain rfl := hs'.fresh fun h => hnL (hcl 5 h 0 (by decide))
      have e5 : a.tmps.getD 5 undef = u5 := hO 5 (Region.not_at (by kernel_rfl))
      clear hA hO
      refine Region.StepG.pure (X := u5) rfl ?_ rfl (hs'.other (by decide) (Below.refl _ _))
      go_simp
     ·obtain rfl := hs'.fresh fun h => hnL (hcl 3 (hcl 4 (hcl 5 h 4 (by decide)) 3 (by decide)) 1 (by decide))
      have e7 : a.tmps.getD 7 undef = .pointer (some ⟨wr.heap.size, 0, none⟩) := hA.old' 7
      have hb := (hs'.ahead rfl).2.2
      have l0 := blk_cell hb 0
      have l1 := blk_cell hb 1
      clear hA hO
      refine Region.StepG.pure (X := .agg #[.int .i64 s, .int .i64 ns]) rfl ?_ rfl (hs'.other (by decide) (Below.refl _ _))
      go_simp
     ·obtain rfl := hs'.fresh fun h => hnL (hcl 3 (hcl 4 (hcl 5 h 4 (by decide)) 3 (by decide)) 2 (by decide))
      clear hA hO
      show Oper.wp _ _ _ _ _ _
      go_simp
      refine (utc_c _).mono ?_
      rintro r w7 ⟨rfl, hu, hb7⟩
      exact ⟨_, rfl, none, ⟨_, rfl, hu⟩, hs'.other (by decide) hb7, fun j t _ _ h => h.keep hb7⟩
     ·obtain rfl := hs'.fresh fun h => hnL (hcl 4 (hcl 5 h 4 (by decide)) 3 (by decide))
      have e24 : a.tmps.getD 24 undef = .agg #[.int .i64 s, .int .i64 ns] := hA.gotL hd 1 24
      obtain ⟨u, e25, hu⟩ : ∃ u, a.tmps.getD 25 undef = .pointer (some ⟨u, 0, none⟩) ∧ IsUTC w6 u := hA.gotL hd 2 25
      clear hA hO
      show Oper.wp _ _ _ _ _ _
      go_simp
      refine (M.out u _ hu).mono ?_
      rintro r w7 ⟨rfl, hb7⟩
      exact ⟨_, rfl, none, rfl, hs'.other (by decide) hb7, fun j t _ _ h => h.keep hb7⟩
     ·obtain rfl := hs'.fresh fun h => hnL (hcl 5 h 4 (by decide))
      have e26 : a.tmps.getD 26 undef = tm ns (s + 62135596800) (.pointer none) := hA.gotL hd 3 26
      have e26' : a.tmps[26]?.getD undef = tm ns (s + 62135596800) (.pointer none) := by simpa using e26
      clear hA hO
      show Oper.wp _ _ _ _ _ _
      go_simp
      exact ⟨_, rfl, none, ⟨w6.heap.size, rfl, fun j hj => by rcases (show j = 0 ∨ j = 1 ∨ j = 2 by simp [tmCells] at hj; omega) with rfl | rfl | rfl <;> simp [go_sem, tmCells]⟩, hs'.other (by decide) (below_alloc (Below.refl _ _) _), fun j t _ _ h => h.keep (below_alloc (Below.refl _ _) _)⟩
     ·obtain rfl := hs'.fresh hnL
      have e23 : a.tmps.getD 23 undef = u5 := hA.gotL hd 0 23
      obtain ⟨b, e27, hb⟩ : ∃ b, a.tmps.getD 27 undef = .slice (some ⟨b, 0, none⟩) 1 1 ∧ ∀ j (h : j < (tmCells (ns, s + 62135596800)).length), w6.cell? ⟨b, j, none⟩ = some ((tmCells (ns, s + 62135596800))[j]) := hA.gotL hd 4 27
      show Oper.wp _ _ _ _ _ _
      refine wp_rowN elem90 (hs'.ahead rfl).2.1 (.tmp 23) (.tmp 27) rfl (by simpa [Act.eval] using e23) b 1 (tmCells (ns, s + 62135596800)) (by simpa [Act.eval] using e27) rfl hb (by intro x hx; simp [tmCells] at hx; rcases hx with rfl | rfl | rfl <;> rfl) (by rw [HL.out]; omega) ?_
      intro v' w' hr hg
      exact ⟨v', some v', rfl, rfl, ⟨fun e => (by cases e), fun v'' e => (by cases e; exact ⟨.inl rfl, by show RowN _ _ _ _ _ _; rw [HN.out]; exact hr⟩)⟩, fun j t hj _ _ => EbV.gone fun e => (by subst e; exact hnL hj)⟩
    ·intro γ a w6 L hs' hall hO hA
     cases γ with
     | none => exact absurd (hall 5 (by decide) (by decide)) (hs'.ahead rfl).1
     | some v' =>
      obtain ⟨-, hr⟩ := hs'.behind v' rfl
      have e28 : a.tmps.getD 28 undef = v' := hA.end' 5 28
      obtain ⟨x23, e23⟩ : ∃ x, a.tmps.getD 23 undef = x := ⟨_, rfl⟩
      obtain ⟨x24, e24⟩ : ∃ x, a.tmps.getD 24 undef = x := ⟨_, rfl⟩
      obtain ⟨x25, e25⟩ : ∃ x, a.tmps.getD 25 undef = x := ⟨_, rfl⟩
      obtain ⟨x26, e26⟩ : ∃ x, a.tmps.getD 26 undef = x := ⟨_, rfl⟩
      obtain ⟨x27, e27⟩ : ∃ x, a.tmps.getD 27 undef = x := ⟨_, rfl⟩
      obtain rfl := hA.frame [(23, x23), (24, x24), (25, x25), (26, x26), (27, x27), (28, v'), (5, u5)] (by
       intro q hq
       simp only [List.mem_cons, List.not_mem_nil, or_false] at hq
       rcases hq with rfl | rfl | rfl | rfl | rfl | rfl | rfl
       ·exact e23
       ·exact e24
       ·exact e25
       ·exact e26
       ·exact e27
       ·exact e28
       ·exact hO 5 (Region.not_at (by kernel_rfl))) (by kernel_rfl)
      have HR := Lib.hid hr
      clear hA hO hs' hall hr e23 e24 e25 e26 e27 e28
      clear L
      simp only [List.foldl_cons, List.foldl_nil]
      simp only [List.setIfInBounds_toArray, List.set_cons_zero, List.set_cons_succ]
      show Oper.wp _ _ _ _ _ _
      go_wp2
      exact ⟨⟨k + 1, rfl, hlt, HR.out⟩, by simp [intOf]; omega⟩
   ·go_wp2_with (first | (refine wpList_rowN elem90 (HT.out.goes (below_alloc (below_alloc (Below.refl _ _) _) _)) rfl _ _ rfl rfl (wr.heap.size + 1) 1 (tmCells (0, 0)) rfl rfl (by intro j hj; rcases (show j = 0 ∨ j = 1 ∨ j = 2 by simp [tmCells] at hj; omega) with rfl | rfl | rfl <;> simp [go_sem, tmCells]) (by intro x hx; simp [tmCells] at hx; rcases hx with rfl | rfl | rfl <;> rfl) (by rw [HL.out]; omega) ?_; intro v' w' hr hgb; have HR := Lib.hid hr; clear hr hgb))
    exact ⟨⟨k + 1, rfl, hlt, by show RowN _ _ _ _ _ _; rw [HN.out]; exact HR.out⟩, by simp [intOf]; omega⟩
  ·obtain rfl : k = n := by omega
   have HT := Lib.hid hT
   clear hT
   obtain ⟨G, c', cur, e1, e2, e3, e4⟩ := HT.out.block (fun h => by have := congrArg List.length h; simp at this; omega)
   have hrow : TmRow wr G k (fun i => (S i).tm) := fun i hi => by
    have hl : i < ((List.range k).map fun i => tmCells (S i).tm).length := by simpa using hi
    have g0 := e4 i 0 hl (by decide)
    have g1 := e4 i 1 hl (by decide)
    have g2 := e4 i 2 hl (by decide)
    rw [List.getElem_map, List.getElem_range] at g0 g1 g2
    exact ⟨(blk_cell e3 _).trans g0, (blk_cell e3 _).trans g1, (blk_cell e3 _).trans g2⟩
   have BT := Lib.hid (byTime_c G c' k (fun i => (S i).tm) hn0 hn (fun i hi => by
    have := hok i hi
    unfold Nx.Ok at this
    unfold Tm.Ok Nx.tm
    split
    ·exact ⟨by decide, by decide⟩
    ·rename_i h; obtain ⟨k0, k1, _⟩ := this (by simpa using h); exact ⟨k0, k1⟩) wr (blk_lt e3) hrow)
   rw [List.length_map, List.length_range] at e1
   subst e1
   clear e2 e3 e4 hrow
   go_wp2_with (first | (go_at_call 40; refine BT.out.mono ?_; clear BT; rintro e w2 ⟨⟨A, c2, j, k1, rfl, k2, k3⟩, hb2⟩))
   go_ret
   exact ⟨⟨A, c2, j, k1, rfl, k2, k3⟩, below_step HT.out.below hb2⟩
open Go.RowKit Go.Maps Go.Proofs.YtcjdideliifkhaaGreatDoorW.PrintWords Go.Proofs.YtcjdideliifkhaaGreatDoorW.PrintLast Go.Proofs.YtcjdideliifkhaaGreatDoorW.PrintMore PFnCronTextAfterAnywhere
theorem before0_c (s x : Int) (w : World) : Calls Tryz.prog 14 #[.agg #[.int .i64 s, .int .i64 0], .agg #[.int .i64 x, .int .i64 0]] w fun e w' => e = .returned (.bool (decide (s < x))) ∧ Below w.heap.size w w' := by
 have hu23 := Tryz.underlying23
 have HB := Lib.hid (below_alloc (below_alloc (Below.refl w.heap.size w) (.cells #[.int .i64 s, .int .i64 0] 23)) (.cells #[.int .i64 x, .int .i64 0] 23))
 obtain ⟨b1, q1⟩ : ∃ b, decide (s < x) = b := ⟨_, rfl⟩
 obtain ⟨b2, q2⟩ : ∃ b, (s == x) = b := ⟨_, rfl⟩
 rw [q1]
 cases b1 <;> cases b2
 all_goals
  go_enter Tryz.func14, Tryz.ntmps14
  go_wp2
  go_ret
  exact ⟨rfl, HB.out⟩
theorem fits2_c (v : Value) (l : List ByteArray) (hl : l.length ≤ maxLen) (w : World) (hv : Strs w v l) (hz : ∀ t ∈ l, t.size ≤ maxLen) :
  Calls Tryz.prog 15 #[v] w fun e w' => (∃ r : Bool, e = .returned (.bool r) ∧ (r = true → ∀ t ∈ l, t.size ≤ 2147483647)) ∧ Below w.heap.size w w' := by
 obtain ⟨A, c, rfl, hr⟩ := hv
 obtain ⟨n, hn⟩ : ∃ n, l.length = n := ⟨_, rfl⟩
 have HR := Lib.hid hr
 have HN := Lib.hid hn
 have HZ := Lib.hid hz
 rw [hn] at hl ⊢
 unfold maxLen at hl
 clear hr hn hz
 go_enter Tryz.func15, Tryz.ntmps15
 by_cases h0 : (n : Int) > 2147483647
 ·go_wp2
  go_ret
  exact ⟨⟨false, rfl, fun h => by cases h⟩, Below.refl _ _⟩
 go_wp2
 go_loopw [10] (fun v10 wr => ∃ i : Nat, v10 = .int .i64 (i : Int) ∧ i ≤ n ∧ (∀ k (hk : k < l.length), k < i → l[k].size ≤ 2147483647) ∧ Below w.heap.size w wr) (fun v10 _ => n - (intOf v10).toNat)
 case atStart => exact ⟨0, rfl, Nat.zero_le _, fun k _ hk => by omega, Below.refl _ _⟩
 case round =>
  obtain ⟨i, rfl, hi, hs, hb⟩ := hrel
  have HS := Lib.hid hs
  have HB := Lib.hid hb
  clear hs hb
  by_cases hin : i < n
  ·have hil : i < l.length := by rw [HN.out]; exact hin
   obtain ⟨ad, rfl, hc⟩ := HR.out i hil
   replace hc := pw_cell_below HB.out hc
   have htz := HZ.out l[i] (List.getElem_mem _)
   obtain ⟨t, ht⟩ : ∃ t, l[i] = t := ⟨_, rfl⟩
   rw [ht] at hc htz
   have HT := Lib.hid ht
   unfold maxLen at htz
   clear ht
   by_cases h1 : (t.size : Int) > 2147483647
   ·go_wp2
    go_ret
    exact ⟨⟨false, rfl, fun h => by cases h⟩, HB.out⟩
   ·go_wp2
    exact ⟨⟨i + 1, rfl, hin, fun k hk hki => by
     by_cases e : k = i
     ·subst e; rw [HT.out]; omega
     ·exact HS.out k hk (by omega), HB.out⟩, by simp [intOf]; omega⟩
  ·obtain rfl : i = n := by omega
   go_wp2
   go_ret
   exact ⟨⟨true, rfl, fun _ t ht => by
    obtain ⟨k, hk, rfl⟩ := List.getElem_of_mem ht
    exact HS.out k hk (by have := HN.out; omega)⟩, HB.out⟩
theorem wpList_build1 {ops : Array Oper} {rest : List Oper} {o : Oper} {a : Act} {Q : Exit → Act → World → Prop} {w : World} {T e : TypeId} {i : TypeInfo} {z : Value} {k : Nat} (hE : ElemN T e i z k) (hk : k ≤ 1000)
  (hg : o.guard = none) (x : Operand) (ho : o.op = .buildSlice T 1 #[(0, x)]) (u : List Value) (hx : a.eval x = .agg u.toArray) (hu : u.length = k)
  (h : wpList Tryz.prog ops Q rest (a.put o.dst (.slice (some ⟨w.heap.size, 0, none⟩) 1 1)) (w.alloc (.cells u.toArray e))) : wpList Tryz.prog ops Q (o :: rest) a w := by
 have hp := hE.pos
 have hs := hE.size
 refine wpList_buildSlice hg T e 1 _ ho u.toArray i z hE.sl hE.inf hE.zero (by rw [hs]; omega) (by rw [hs]; omega) ?_ h
 rw [hs, Array.toList_map]
 show Instr.fill _ _ [(0, a.eval x)] = _
 rw [hx]
 have := Great.fill_whole hp [.agg u.toArray] ((Array.range (1 * k)).map (z.cells[· % z.cells.size]!)) (fun v hv => by rw [List.mem_singleton] at hv; subst hv; simpa [Value.cells] using hu) (by simp)
 simpa [Value.cells] using this
noncomputable def info40 : TypeInfo := (Tryz.prog.info? 40).get (by kernel_rfl)
theorem elem40 : ElemN 52 40 info40 (.agg CMean.zero.cells.toArray) 387 := ⟨by kernel_rfl, by kernel_rfl, by kernel_rfl, by kernel_rfl, by decide, by rw [show info40.bytes = 408 by kernel_rfl]; decide, by kernel_rfl⟩
theorem all1_mcells (m : CMean) : ∀ x ∈ m.cells, x.oneCell' = true := fun x hx => (Array.all_eq_true_iff_forall_mem.1 (all_mcells m)) x (by simpa using hx)
structure MnS (w0 w : World) (l : List ByteArray) (ms : List CMean) (v : Value) : Prop where
 row : RowN w0 w 40 387 v (ms.map CMean.cells)
 le : ms.length ≤ l.length
 good : ∀ k (h : k < ms.length), ParseR 380 (toL (l[k]'(Nat.lt_of_lt_of_le h le))) ms[k] ∧ ms[k].utc = false ∧ (l[k]'(Nat.lt_of_lt_of_le h le)).size ≤ 500
theorem meanings_c (v : Value) (l : List ByteArray) (hl : l.length ≤ 5) (w : World) (hv : Strs w v l) (hz : ∀ t ∈ l, t.size ≤ 2147483647) :
  Calls Tryz.prog 16 #[v] w fun e w' => ∃ (v' : Value) (ok : Bool), e = .returned (.tuple #[v', .bool ok]) ∧ Below w.heap.size w w' ∧ (ok = true → ∃ ms : List CMean, ms.length = l.length ∧ MnS w w' l ms v') := by
 obtain ⟨A, c, rfl, hr⟩ := hv
 obtain ⟨n, hn⟩ : ∃ n, l.length = n := ⟨_, rfl⟩
 have HR := Lib.hid hr
 have HN := Lib.hid hn
 have HZ := Lib.hid hz
 rw [hn] at hl ⊢
 clear hr hn hz
 go_enter Tryz.func16, Tryz.ntmps16
 go_wp2
 go_loopw [4, 11] (fun v4 v11 wr => ∃ ms : List CMean, v11 = .int .i64 (ms.length : Int) ∧ MnS w wr l ms v4) (fun _ v11 _ => n - (intOf v11).toNat)
 case atStart => exact ⟨[], rfl, RowN.nil _ _ _ _ (Below.refl _ _), Nat.zero_le _, fun k hk => by cases hk⟩
 case round =>
  obtain ⟨ms, rfl, hS⟩ := hrel
  have hle := hS.le
  rw [HN.out] at hle
  obtain ⟨i, hi⟩ : ∃ i, ms.length = i := ⟨_, rfl⟩
  rw [hi] at hle ⊢
  have HS := Lib.hid hS
  have HI := Lib.hid hi
  clear hS hi
  by_cases hin : i < n
  ·have hil : i < l.length := by rw [HN.out]; exact hin
   obtain ⟨ad, rfl, hc⟩ := HR.out i hil
   replace hc := pw_cell_below HS.out.row.below hc
   have htz := HZ.out l[i] (List.getElem_mem _)
   obtain ⟨t, ht⟩ : ∃ t, l[i] = t := ⟨_, rfl⟩
   rw [ht] at hc htz
   have HT := Lib.hid ht
   clear ht
   have HP := Lib.hid (fun w => parse_c 380 (by decide) two380 t (by omega) w)
   go_upto_region 6 with (first
    | (go_at_call 10; refine (HP.out _).mono ?_; clear HP; rintro e w1 ⟨⟨m, vd, rfl, hv0, hvR⟩, hb1⟩; have HB1 := Lib.hid hb1; have HVR := Lib.hid hvR; clear hb1 hvR)
    | (refine wpList_alloc_mean rfl rfl ?_; intro b7 hg w2 hm0 hb2 hlt; have HB2 := Lib.hid (below_step HB1.out hb2); have HM0 := Lib.hid hm0; have HG := Lib.hid (show wr.heap.size ≤ b7 by have := HB1.out.size; omega); clear hb2 hm0 hg hlt)
    | (refine wpList_store_mean rfl (.tmp 7) (.tmp 18) rfl b7 CMean.zero m rfl rfl HM0.out ?_; intro w3 hm1 hb3; have HM1 := Lib.hid hm1; have HB3 := Lib.hid (HB2.out.trans (hb3 _ HG.out)); clear hm1 hb3)
    | fail)
   obtain ⟨b1, h1⟩ : ∃ b, decide ((t.size : Int) > 500) = b := ⟨_, rfl⟩
   obtain ⟨b2, h2⟩ : ∃ b, (vd != 1) = b := ⟨_, rfl⟩
   obtain ⟨b3, h3⟩ : ∃ b, m.utc = b := ⟨_, rfl⟩
   have cu := HM1.out.utcCell
   rw [h3] at cu
   have HB4 := Lib.hid (below_step HS.out.row.below HB3.out)
   by_cases hbad : (b1 || b2 || b3) = true
   ·clear hc
    cases b1 <;> cases b2 <;> cases b3 <;> first | exact absurd hbad (by decide) | skip
    all_goals
     go_wp2
     refine bodyPost_ret (results_list (rs := [.tmp 2, .tmp 3]) rfl (by simp) (.tmp (.tmp .nil))) rfl ?_
     exact ⟨_, false, rfl, HB4.out, fun h => by cases h⟩
   ·have e1 : b1 = false := by cases b1 <;> simp_all
    have e2 : b2 = false := by cases b2 <;> simp_all
    have e3 : b3 = false := by cases b3 <;> simp_all
    subst e1 e2 e3
    have hvd : vd = 1 := by simpa using h2
    subst hvd
    have HM := Lib.hid (And.intro (HVR.out rfl) (And.intro h3 (show t.size ≤ 500 by have := of_decide_eq_false h1; omega)))
    have hb500 : ¬ (t.size : Int) > 500 := of_decide_eq_false h1
    clear h1 h2 hc hbad HVR
    go_upto_region 8 with (fail)
    have HN2 := Lib.hid (show ∀ j (h : j < m.cells.length), (w3.alloc (.cells m.cells.toArray 40)).cell? ⟨w3.heap.size, j, none⟩ = some m.cells[j] from fun j h => by rw [blk_cell (blk_new w3 _) j]; simp)
    have HL := Lib.hid (show (ms.map CMean.cells).length ≤ 1000 by rw [List.length_map, HI.out]; omega)
    have HR4 := Lib.hid (HS.out.row.goes (below_alloc HB3.out (.cells m.cells.toArray 40)))
    go_wp2_with (first
     | (refine wpList_load_mid rfl 40 (.tmp 7) rfl b7 0 rfl m.cells _ HM1.out.range Tryz.underlying40 rfl (by rw [CMean.cells_len]; kernel_rfl) ?_)
     | (refine wpList_build1 elem40 (by decide) rfl (.tmp 32) rfl m.cells rfl (CMean.cells_len m) ?_)
     | (refine wpList_rowN elem40 HR4.out rfl _ _ rfl rfl w3.heap.size 1 m.cells rfl (CMean.cells_len m) HN2.out (all1_mcells m) HL.out ?_; intro v' w5 hr hg; have HR5 := Lib.hid hr; clear hr hg))
    exact ⟨⟨ms ++ [m], by rw [List.length_append, HI.out]; rfl, by rw [List.map_append]; exact HR5.out, by rw [List.length_append, HI.out]; exact hil, fun k hk => by
     rw [List.length_append, HI.out, List.length_singleton] at hk
     by_cases e : k = i
     ·subst e
      have hm : (ms ++ [m])[k]'(by rw [List.length_append, HI.out, List.length_singleton]; exact hk) = m := by rw [List.getElem_append_right (by rw [HI.out]; exact Nat.le_refl _)]; simp [HI.out]
      rw [hm, HT.out]
      exact HM.out
     ·have hm : (ms ++ [m])[k]'(by rw [List.length_append, HI.out, List.length_singleton]; exact hk) = ms[k]'(by rw [HI.out]; omega) := List.getElem_append_left (by rw [HI.out]; omega)
      rw [hm]
      exact HS.out.good k (by rw [HI.out]; omega)⟩, by simp [intOf]; omega⟩
  ·obtain rfl : i = n := by omega
   go_wp2
   refine bodyPost_ret (results_list (rs := [.tmp 2, .tmp 3]) rfl (by simp) (.tmp (.tmp .nil))) rfl ?_
   exact ⟨_, true, rfl, HS.out.row.below, fun _ => ⟨ms, HI.out, HS.out⟩⟩
noncomputable def nextR (m : CMean) (s : Int) : Option Int := by
 classical
 exact if h : ∃ r, NxR m s r then h.choose else none
theorem nextR_eq {m : CMean} {s : Int} {r : Option Int} (h : NxR m s r) : r = nextR m s := by
 have h' : ∃ r, NxR m s r := ⟨r, h⟩
 unfold nextR
 rw [dif_pos h']
 exact h.unique h'.choose_spec
theorem nextR_bound {m : CMean} (hd : DelOk m) {s v : Int} (h : nextR m s = some v) : s + 1 ≤ v ∧ v ≤ s + 4611686019 := by
 unfold nextR at h
 by_cases h' : ∃ r, NxR m s r
 ·rw [dif_pos h'] at h
  have := h'.choose_spec
  rw [h] at this
  exact this.bound hd
 ·rw [dif_neg h'] at h; cases h
theorem after_t (m : CMean) (hd : DelOk m) (s ns : Int) (h0 : -62135596800 ≤ s) (h1 : s ≤ 700000000000) (w : World) :
  Calls Tryz.prog 12 #[.agg m.cells.toArray, .agg #[.int .i64 s, .int .i64 ns], zUTC] w fun e w' => (∃ r, r = nextR m s ∧ e = .returned (.tuple #[.agg #[.int .i64 (r.getD 0), .int .i64 0], .bool r.isSome])) ∧ Below w.heap.size w w' :=
 (after_c m hd s ns h0 h1 w).mono fun e w' ⟨⟨r, h1, h2⟩, h3⟩ => ⟨⟨r, nextR_eq h1, h2⟩, h3⟩
theorem next_t (m : CMean) (hd : DelOk m) (cs : Array Value) (h : PlainS m cs) (s ns : Int) (h0 : -62135596800 ≤ s) (h1 : s ≤ 700000000000) (n0 : 0 ≤ ns) (n1 : ns < 1000000000) (w : World) :
  Calls Tryz.prog 18 #[.agg cs, .agg #[.int .i64 s, .int .i64 ns], zUTC] w fun e w' => (∃ r, r = nextR m s ∧ e = .returned (.tuple #[.agg #[.int .i64 (r.getD 0), .int .i64 0], .bool r.isSome])) ∧ Below w.heap.size w w' :=
 (implNext_c m hd cs h s ns h0 h1 n0 n1 w).mono fun e w' ⟨⟨r, h1, h2⟩, h3⟩ => ⟨⟨r, nextR_eq h1, h2⟩, h3⟩
def MnRow (w : World) (g : Nat) (ms : List CMean) : Prop := ∀ i (h : i < ms.length), w.rangeAt g (i * 387) ms[i].cells
theorem MnRow.goes {w w' : World} {g : Nat} {ms : List CMean} (h : MnRow w g ms) (hb : Below w.heap.size w w') : MnRow w' g ms := fun i hi j v hv => pw_cell_below hb (h i hi j v hv)
def ABlk (w : World) (g n k : Nat) (S : Nat → Int) : Prop := ∃ cur : Array Value, w.heap[g]? = some (.cells cur 23 (0, 0)) ∧ cur.size = n * 2 ∧ ∀ i, i < k → cur[i * 2]? = some (.int .i64 (S i)) ∧ cur[i * 2 + 1]? = some (.int .i64 0)
def ZBlk (w : World) (g n k : Nat) (f : Nat → Bool) : Prop := ∃ cur : Array Value, w.heap[g]? = some (.cells cur 4 (0, 0)) ∧ cur.size = n ∧ ∀ i, i < k → cur[i]? = some (.bool (f i))
theorem ABlk.goes {w w' : World} {g n k : Nat} {S : Nat → Int} (h : ABlk w g n k S) (hb : Below w.heap.size w w') : ABlk w' g n k S := by
 obtain ⟨cur, h1, h2⟩ := h; exact ⟨cur, blk_below h1 hb, h2⟩
theorem ZBlk.goes {w w' : World} {g n k : Nat} {f : Nat → Bool} (h : ZBlk w g n k f) (hb : Below w.heap.size w w') : ZBlk w' g n k f := by
 obtain ⟨cur, h1, h2⟩ := h; exact ⟨cur, blk_below h1 hb, h2⟩
theorem ABlk.at {w : World} {g n k : Nat} {S : Nat → Int} (h : ABlk w g n k S) (i : Nat) (hi : i < k) : w.cell? ⟨g, i * 2, none⟩ = some (.int .i64 (S i)) ∧ w.cell? ⟨g, i * 2 + 1, none⟩ = some (.int .i64 0) := by
 obtain ⟨cur, h1, h2, h3⟩ := h
 exact ⟨(blk_cell h1 _).trans (h3 i hi).1, (blk_cell h1 _).trans (h3 i hi).2⟩
theorem ZBlk.at {w : World} {g n k : Nat} {f : Nat → Bool} (h : ZBlk w g n k f) (i : Nat) (hi : i < k) : w.cell? ⟨g, i, none⟩ = some (.bool (f i)) := by
 obtain ⟨cur, h1, h2, h3⟩ := h
 exact (blk_cell h1 _).trans (h3 i hi)
theorem ABlk.there {w : World} {g n k : Nat} {S : Nat → Int} (h : ABlk w g n k S) (i : Nat) (hi : i < n) : w.there g (i * 2) 2 := by
 obtain ⟨cur, h1, h2, h3⟩ := h
 refine fun j hj => ⟨?_, blk_frozen h1 _⟩
 rw [blk_cell h1, Array.getElem?_eq_getElem (by omega)]; rfl
theorem ZBlk.there {w : World} {g n k : Nat} {f : Nat → Bool} (h : ZBlk w g n k f) (i : Nat) (hi : i < n) : (∃ v, w.cell? ⟨g, i, none⟩ = some v) ∧ w.frozen? ⟨g, i, none⟩ = false := by
 obtain ⟨cur, h1, h2, h3⟩ := h
 refine ⟨⟨cur[i]'(by omega), ?_⟩, blk_frozen h1 _⟩
 rw [blk_cell h1, Array.getElem?_eq_getElem (by omega)]
theorem ABlk.far {w : World} {g n k : Nat} {S : Nat → Int} (h : ABlk w g n k S) {p : Addr} (hp : g ≠ p.block) (u : Value) : ABlk (w.setCell p u) g n k S := by
 obtain ⟨cur, h1, h2⟩ := h; exact ⟨cur, blk_far h1 hp u, h2⟩
theorem ZBlk.far {w : World} {g n k : Nat} {f : Nat → Bool} (h : ZBlk w g n k f) {p : Addr} (hp : g ≠ p.block) (u : Value) : ZBlk (w.setCell p u) g n k f := by
 obtain ⟨cur, h1, h2⟩ := h; exact ⟨cur, blk_far h1 hp u, h2⟩
theorem ABlk.put {w : World} {g n k k' : Nat} {S : Nat → Int} (h : ABlk w g n k S) (i : Nat) (hi : i < n) (hk : ∀ j, j < k' → j < k ∨ j = i) (v : Int) :
  ABlk ((w.setCell ⟨g, i * 2, none⟩ (.int .i64 v)).setCell ⟨g, i * 2 + 1, none⟩ (.int .i64 0)) g n k' (fun j => if j = i then v else S j) := by
 obtain ⟨cur, h1, h2, h3⟩ := h
 refine ⟨_, blk_set (blk_set h1 _ _) _ _, by simp [h2], fun j hj => ?_⟩
 have hs : i * 2 + 1 < cur.size := by omega
 show _ = some (Value.int .i64 (if j = i then v else S j)) ∧ _
 by_cases e : j = i
 ·subst e
  rw [if_pos rfl]
  constructor
  ·rw [Array.getElem?_setIfInBounds, if_neg (by omega), Array.getElem?_setIfInBounds, if_pos rfl, if_pos (by omega)]
  ·rw [Array.getElem?_setIfInBounds, if_pos rfl, if_pos (by simpa using hs)]
 ·obtain ⟨g1, g2⟩ := h3 j ((hk j hj).resolve_right e)
  rw [if_neg e]
  constructor
  ·rw [Array.getElem?_setIfInBounds, if_neg (by omega), Array.getElem?_setIfInBounds, if_neg (by omega)]; exact g1
  ·rw [Array.getElem?_setIfInBounds, if_neg (by omega), Array.getElem?_setIfInBounds, if_neg (by omega)]; exact g2
theorem ZBlk.put {w : World} {g n k k' : Nat} {f : Nat → Bool} (h : ZBlk w g n k f) (i : Nat) (hi : i < n) (hk : ∀ j, j < k' → j < k ∨ j = i) (b : Bool) :
  ZBlk (w.setCell ⟨g, i, none⟩ (.bool b)) g n k' (fun j => if j = i then b else f j) := by
 obtain ⟨cur, h1, h2, h3⟩ := h
 refine ⟨_, blk_set h1 _ _, by simp [h2], fun j hj => ?_⟩
 show _ = some (Value.bool (if j = i then b else f j))
 by_cases e : j = i
 ·subst e
  rw [if_pos rfl, Array.getElem?_setIfInBounds, if_pos rfl, if_pos (by omega)]
 ·rw [if_neg e, Array.getElem?_setIfInBounds, if_neg (by omega)]
  exact h3 j ((hk j hj).resolve_right e)
noncomputable def info23 : TypeInfo := (Tryz.prog.info? 23).get (by kernel_rfl)
noncomputable def info4 : TypeInfo := (Tryz.prog.info? 4).get (by kernel_rfl)
theorem wpList_makeA {ops : Array Oper} {rest : List Oper} {op : Oper} {a : Act} {w : World} {Q : Exit → Act → World → Prop} (hgd : op.guard = none) (x y : Operand) (ho : op.op = .makeSlice 56 x y) (n : Nat) (hn : n ≤ 5) (hx : a.eval x = .int .i64 (n : Int)) (hy : a.eval y = .int .i64 (n : Int))
  (h : ∀ g, g = w.heap.size → ∀ w1, ABlk w1 g n 0 (fun _ => 0) → Below w.heap.size w w1 → g < w1.heap.size → wpList Tryz.prog ops Q rest (a.put op.dst (.slice (some ⟨g, 0, none⟩) n n)) w1) : wpList Tryz.prog ops Q (op :: rest) a w := by
 refine wpList_make_full w hgd x y 56 ho w.heap.size 23 info23 (.agg #[.int .i64 0, .int .i64 0]) 2 (by kernel_rfl) (by kernel_rfl) (by kernel_rfl) (by kernel_rfl) .i64 .i64 n n n hx hy rfl rfl (by rw [show info23.bytes = 16 by kernel_rfl]; omega) (by unfold maxLen; omega) (Nat.le_refl _) ?_
 intro w1 hown hgr
 have hb : Below w.heap.size w w1 := (Below.refl _ _).grown hgr (Nat.le_refl _) (fun k hk => by cases hk)
 obtain ⟨h1, h2 | ⟨g, cap, cur, e, hg, hc, hn', hcap, hsz, ht⟩⟩ := hown
 ·cases h2.1
 ·have e1 : g = w.heap.size ∧ cap = n := by injection e with e1 e2 e3; injection e1 with e1; injection e1 with e1 _ _; exact ⟨e1.symm, e3.symm⟩
  obtain ⟨rfl, rfl⟩ := e1
  exact h _ rfl _ ⟨cur, hc, hsz, fun i hi => by omega⟩ hb (blk_lt hc)
theorem wpList_makeZ {ops : Array Oper} {rest : List Oper} {op : Oper} {a : Act} {w : World} {Q : Exit → Act → World → Prop} (hgd : op.guard = none) (x y : Operand) (ho : op.op = .makeSlice 25 x y) (n : Nat) (hn : n ≤ 5) (hx : a.eval x = .int .i64 (n : Int)) (hy : a.eval y = .int .i64 (n : Int))
  (h : ∀ g, g = w.heap.size → ∀ w1, ZBlk w1 g n 0 (fun _ => false) → Below w.heap.size w w1 → g < w1.heap.size → wpList Tryz.prog ops Q rest (a.put op.dst (.slice (some ⟨g, 0, none⟩) n n)) w1) : wpList Tryz.prog ops Q (op :: rest) a w := by
 refine wpList_make_full w hgd x y 25 ho w.heap.size 4 info4 (.bool false) 1 (by kernel_rfl) (by kernel_rfl) (by kernel_rfl) (by kernel_rfl) .i64 .i64 n n n hx hy rfl rfl (by rw [show info4.bytes = 1 by kernel_rfl]; omega) (by unfold maxLen; omega) (Nat.le_refl _) ?_
 intro w1 hown hgr
 have hb : Below w.heap.size w w1 := (Below.refl _ _).grown hgr (Nat.le_refl _) (fun k hk => by cases hk)
 obtain ⟨h1, h2 | ⟨g, cap, cur, e, hg, hc, hn', hcap, hsz, ht⟩⟩ := hown
 ·cases h2.1
 ·have e1 : g = w.heap.size ∧ cap = n := by injection e with e1 e2 e3; injection e1 with e1; injection e1 with e1 _ _; exact ⟨e1.symm, e3.symm⟩
  obtain ⟨rfl, rfl⟩ := e1
  exact h _ rfl _ ⟨cur, hc, by omega, fun i hi => by omega⟩ hb (blk_lt hc)
end Go.Proofs.YtcjdideliifkhaaGreatDoor
