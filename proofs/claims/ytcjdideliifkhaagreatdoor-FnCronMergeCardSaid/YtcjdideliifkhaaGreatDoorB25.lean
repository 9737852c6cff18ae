import Derived.Test.YtcjdideliifkhaaGreatDoorB24
set_option maxRecDepth 100000
set_option maxHeartbeats 16000000
namespace Go.Proofs.YtcjdideliifkhaaGreatDoor
open Go.RowKit
set_option linter.unusedVariables false
set_option linter.unusedSimpArgs false
def fF (F : CF) : Cal.F := ⟨fun k => (F 4).has k.toNat, fun k => (F 3).has k.toNat, fun k => (F 5).has k.toNat, fun k => (F 2).has k.toNat, fun k => (F 1).has k.toNat, fun k => (F 0).has k.toNat, (F 3).star || (F 5).star⟩
theorem fits_day (F : CF) (n t : Int) (h0 : 0 ≤ t) (h1 : t < 86400) : Cal.fits (fF F) (86400 * n + t) = ((F 4).has (Cal.M n).toNat && Cal.dayFits (fF F) n && tFits F t.toNat) := by
 unfold Cal.fits tFits
 rw [show (86400 * n + t) / 86400 = n by omega, show (86400 * n + t) % 86400 / 3600 = t / 3600 by omega, show (86400 * n + t) % 3600 / 60 = t % 3600 / 60 by omega, show (86400 * n + t) % 60 = t % 60 by omega]
 show ((F 4).has _ && _ && (F 2).has _ && (F 1).has _ && (F 0).has _) = _
 rw [show (t / 3600).toNat = t.toNat / 3600 by omega, show (t % 3600 / 60).toNat = t.toNat % 3600 / 60 by omega, show (t % 60).toNat = t.toNat % 60 by omega]
 cases (F 4).has (Cal.M n).toNat <;> cases Cal.dayFits (fF F) n <;> simp [Bool.and_assoc]
theorem dayF_eq (F : CF) (n : Int) : dayF F (Cal.D n).toNat (Cal.W n).toNat = Cal.dayFits (fF F) n := rfl
theorem empty_has {s : CSet} (h : s.empty = true) (i : Nat) (hi : i < 63) : s.has i = false := by
 have := List.all_eq_true.1 h i (by simpa using hi)
 simpa using this
theorem never_fits {F : CF} (h : neverB F = true) (u : Int) : Cal.fits (fF F) u = false := by
 unfold neverB at h
 simp only [Bool.or_eq_true] at h
 rcases h with (h | h) | h
 ·have := empty_has h (u % 86400 / 3600).toNat (by omega)
  unfold Cal.fits; rw [show (fF F).ho (u % 86400 / 3600) = (F 2).has (u % 86400 / 3600).toNat from rfl, this]; simp
 ·have := empty_has h (u % 3600 / 60).toNat (by omega)
  unfold Cal.fits; rw [show (fF F).mi (u % 3600 / 60) = (F 1).has (u % 3600 / 60).toNat from rfl, this]; simp
 ·have := empty_has h (u % 60).toNat (by omega)
  unfold Cal.fits; rw [show (fF F).se (u % 60) = (F 0).has (u % 60).toNat from rfl, this]; simp
theorem dayFits_i (F : CF) (n : Int) (w : World) :
  Calls Tryz.prog 105 #[fval F, .agg #[.int .i64 (Cal.Y n), .int .i64 (Cal.M n), .int .i64 (Cal.D n)], .int .i64 (Cal.W n)] w fun e w' => e = .returned (.bool (Cal.dayFits (fF F) n)) ∧ Below w.heap.size w w' := by
 have v := Cal.date_valid n
 have p := Cal.mdays_pos (Cal.Y n) (Cal.M n)
 obtain ⟨v1, v2, v3, v4⟩ := v
 have hw : 0 ≤ Cal.W n ∧ Cal.W n < 7 := by unfold Cal.W; omega
 have := dayFits_c F (Cal.Y n) (Cal.M n) (Cal.D n).toNat (Cal.W n).toNat (by omega) (by omega) w
 rw [show (((Cal.D n).toNat : Nat) : Int) = Cal.D n by omega, show (((Cal.W n).toNat : Nat) : Int) = Cal.W n by omega, dayF_eq] at this
 exact this
theorem time_i (F : CF) (n : Int) (h0 : 0 ≤ n) (h1 : n < 86400) (w : World) : Calls Tryz.prog 107 #[fval F, .int .i64 n] w (TimeQ F n.toNat w) := by
 have := time_t F n.toNat (by omega) w
 rwa [show ((n.toNat : Nat) : Int) = n by omega] at this
def LocalQ (F : CF) (first last : Int) (w : World) (e : Ending) (w' : World) : Prop :=
 (∃ v : Option Int, Cal.Ans (fF F) first last v ∧ e = .returned (.tuple #[.int .i64 (v.getD 0), .bool v.isSome])) ∧ Below w.heap.size w w'
def LocalR (F : CF) (first last : Int) (w0 : World) (B : Nat) (dv av pv : Value) (wr : World) : Prop :=
 ∃ (day at_ : Int) (b : Nat), dv = .int .i64 day ∧ av = .int .i64 at_ ∧ pv = .pointer (some ⟨b, 0, none⟩) ∧ 0 ≤ at_ ∧ at_ < 86400 ∧ -719162 ≤ day ∧ day ≤ 9999999 ∧ first ≤ 86400 * day + at_ ∧ Cal.Quiet (fF F) first (86400 * day + at_) ∧
  Own3 wr b (.int .i64 (Cal.Y day)) (.int .i64 (Cal.M day)) (.int .i64 (Cal.D day)) ∧ FAt wr B 0 F ∧ Below w0.heap.size w0 wr ∧ w0.heap.size ≤ b ∧ b ≠ B
theorem drewN_below {w : World} (n : Nat) : Below w.heap.size w (w.drewN n) := ⟨rfl, rfl, rfl, Nat.le_refl _, fun _ _ => rfl⟩
theorem Own3.alloc_new (w : World) (x y z : Value) (T : TypeId) : Own3 (w.alloc (Obj.cells #[x, y, z] T)) w.heap.size x y z :=
 ⟨by simp, by simp [go_sem], by simp [go_sem], by simp [go_sem], by simp [go_sem], by simp [go_sem], by simp [go_sem]⟩
theorem LocalR.next {F : CF} {first last : Int} {w0 W2 : World} {B bn : Nat} {day : Int} (hB : Below w0.heap.size w0 W2) (hF : FAt W2 B 0 F) (hBn : B < bn) (h0 : w0.heap.size ≤ bn) {x y z : Value} (ho : Own3 W2 bn x y z) (d0 : -719162 ≤ day) (d1 : day ≤ 9999998)
  (hf : first ≤ 86400 * (day + 1)) (hq : Cal.Quiet (fF F) first (86400 * (day + 1))) :
  LocalR F first last w0 B (.int .i64 (day + 1)) (.int .i64 0) (.pointer (some ⟨bn, 0, none⟩)) (set3 W2 bn (.int .i64 (Cal.Y (day + 1))) (.int .i64 (Cal.M (day + 1))) (.int .i64 (Cal.D (day + 1)))) := by
 refine ⟨day + 1, 0, bn, rfl, rfl, rfl, by omega, by omega, by omega, by omega, by omega, by rw [Int.add_zero]; exact hq, ho.set _ _ _, ?_, ((hB.setCell h0 _).setCell h0 _).setCell h0 _, h0, by omega⟩
 refine ⟨by rw [set3_heap]; exact hF.1, fun k hk => ?_, fun k i hk hi => ?_⟩
 ·rw [set3_cell _ _ _ _ _ _ (show B ≠ bn by omega)]; exact hF.star k hk
 ·rw [set3_cell _ _ _ _ _ _ (show B ≠ bn by omega)]; exact hF.has k i hk hi
theorem local_c (F : CF) (first last : Int) (h0 : -62135596800 ≤ first) (h1 : first ≤ 800000000000) (hl : last ≤ 27390) (w : World) :
  Calls Tryz.prog 74 #[fval F, .int .i64 first, .int .i64 4611686018427387904, .int .i64 last] w (LocalQ F first last w) := by
 go_enter Tryz.func74, Tryz.ntmps74
 go_upto_region 1 with (fail)
 have hF := FAt.boxed w F 38
 have hB : Below w.heap.size w (w.alloc (Obj.cells (fcells F).toArray 38)) := (Below.refl _ _).alloc (Nat.le_refl _) _
 generalize w.alloc (Obj.cells (fcells F).toArray 38) = W at *
 cases hn : neverB F with
 | true =>
  have hq : ∀ w', Below w.heap.size w w' → LocalQ F first last w (.returned (.tuple #[.int .i64 0, .bool false])) w' :=
   fun w' h => ⟨⟨none, fun u _ _ => never_fits hn u, rfl⟩, h⟩
  have hc := fun w => never_c F w
  rw [hn] at hc
  have HC := Lib.hid hc
  have HQ := Lib.hid hq
  clear hc hn hq
  go_wp2_with (first
   | (refine wpList_load_mid rfl 38 (.tmp 4) rfl w.heap.size 0 rfl (fcells F) _ (hF.range) Tryz.underlying38 rfl (by rw [fcells_len]; kernel_rfl) ?_)
   | (go_at_call 103; refine (HC.out _).mono ?_; rintro e w1 ⟨rfl, hb⟩; replace hB := hB.trans (hb.mono hB.size)))
  go_ret2
  exact HQ.out _ hB
 | false =>
  have hc := fun w => never_c F w
  rw [hn] at hc
  have HC := Lib.hid hc
  clear hc hn
  have d0 : -719162 ≤ first / 86400 := by omega
  have d1 : first / 86400 ≤ 9999999 := by omega
  go_upto_block 0 with (first
   | (refine wpList_load_mid rfl 38 (.tmp 4) rfl w.heap.size 0 rfl (fcells F) _ (hF.range) Tryz.underlying38 rfl (by rw [fcells_len]; kernel_rfl) ?_)
   | (go_at_call 103; refine (HC.out _).mono ?_; rintro e w1 ⟨rfl, hb⟩; replace hB := hB.trans (hb.mono hB.size); replace hF := hF.below hb)
   | (go_at_call 71; refine (floorDiv_c _ _ (by decide) (by omega) (by omega) _).mono ?_; rintro e w1 ⟨rfl, hb⟩; replace hB := hB.trans (hb.mono hB.size); replace hF := hF.below hb)
   | (go_at_call 70; refine (dateOf_c _ d0 (by omega) _).mono ?_; rintro e w1 ⟨rfl, hb⟩; replace hB := hB.trans (hb.mono hB.size); replace hF := hF.below hb))
  have hL : LocalR F first last w w.heap.size (.int .i64 (first / 86400)) (.int .i64 (first - 86400 * (first / 86400))) (.pointer (some ⟨w1.heap.size, 0, none⟩))
    (w1.alloc (Obj.cells #[Value.int IntKind.i64 (Cal.Y (first / 86400)), Value.int IntKind.i64 (Cal.M (first / 86400)), Value.int IntKind.i64 (Cal.D (first / 86400))] 135)) :=
   ⟨_, _, _, rfl, rfl, rfl, by omega, by omega, d0, d1, by omega, Cal.Quiet.nil _ (by omega), ⟨by simp, by simp [go_sem], by simp [go_sem], by simp [go_sem], by simp [go_sem], by simp [go_sem], by simp [go_sem]⟩,
    hF.below ((Below.refl _ _).alloc (Nat.le_refl _) _), hB.alloc hB.size _, hB.size, by have := hF.size; omega⟩
  generalize (w1.alloc (Obj.cells #[Value.int IntKind.i64 (Cal.Y (first / 86400)), Value.int IntKind.i64 (Cal.M (first / 86400)), Value.int IntKind.i64 (Cal.D (first / 86400))] 135)) = W2 at *
  generalize w1.heap.size = b1 at *
  clear hB hF d0 d1 HC
  go_wp2
  go_loopw [10, 11, 12] (fun dv av pv wr => LocalR F first last w w.heap.size dv av pv wr) (fun dv _ _ _ => (10000000 - intOf dv).toNat)
  case atStart => exact hL
  case round =>
   obtain ⟨day, at_, b, rfl, rfl, rfl, a0, a1, d0, d1, hfi, hq, hown, hF, hB, hb0, hbB⟩ := hrel
   clear hL
   obtain ⟨zt, k0, k1, k2, f0, f1, f2⟩ := hown
   by_cases hy : Cal.Y day ≤ last
   ·have hyb := year_below hy (show last ≤ 27400 by omega)
    have hv := Cal.date_valid day
    obtain ⟨v1, v2, -, -⟩ := hv
    have HQ := Lib.hid hq
    clear hq
    cases hm : (F 4).has (Cal.M day).toNat with
    | false =>
     have hc : wr.cell? ⟨w.heap.size, 257 + (Cal.M day).toNat, none⟩ = some (.bool false) := by
      have := hF.has 4 (Cal.M day).toNat (by decide) (by omega); rw [hm] at this; simpa using this
     have i0 : 0 ≤ Cal.M day := by omega
     have i1 : Cal.M day < 63 := by omega
     have HF := Lib.hid hF
     clear hF
     go_wp2
     go_quiet (fail)
     rename_i nq
     have hqn : Cal.Quiet (fF F) first (86400 * (day + 1)) := fun u h1 h2 => by
      by_cases c : u < 86400 * day + at_
      ·exact HQ.out u h1 c
      ·have := fits_day F day (u - 86400 * day) (by omega) (by omega)
       rw [show 86400 * day + (u - 86400 * day) = u by omega, hm] at this
       simpa using this
     have HN := Lib.hid hqn
     clear hqn
     have hB3 := hB.trans ((drewN_below (w := wr) nq).mono hB.size)
     have hF3 := HF.out.below (drewN_below (w := wr) nq)
     have ho3 := Own3.below (show Own3 wr b _ _ _ from ⟨zt, k0, k1, k2, f0, f1, f2⟩) (drewN_below (w := wr) nq)
     generalize wr.drewN nq = W3 at *
     have hoA := Own3.alloc_new W3 (.int .i64 (Cal.Y day)) (.int .i64 (Cal.M day)) (.int .i64 (Cal.D day)) 135
     have hBA : Below w.heap.size w (W3.alloc (Obj.cells #[.int .i64 (Cal.Y day), .int .i64 (Cal.M day), .int .i64 (Cal.D day)] 135)) := hB3.alloc hB3.size _
     have hFA : FAt (W3.alloc (Obj.cells #[.int .i64 (Cal.Y day), .int .i64 (Cal.M day), .int .i64 (Cal.D day)] 135)) w.heap.size 0 F := hF3.below ((Below.refl _ _).alloc (Nat.le_refl _) _)
     have hsz := hF3.size
     have hsz2 := hB3.size
     obtain ⟨zt, k0, k1, k2, f0, f1, f2⟩ := ho3
     have HFA := Lib.hid hFA
     have HoA := Lib.hid hoA
     clear hF3 hFA hoA HF HQ
     go_wp2_with (go_at_call 104; refine (tomorrow_c day (by omega) (by omega) _).mono ?_; rintro e w4 ⟨rfl, hb4⟩; have ho4 := HoA.out.below hb4; have hF4 := HFA.out.below hb4; have hB4 := hBA.trans (hb4.mono hBA.size); have hlr := Lib.hid (LocalR.next (last := last) hB4 hF4 hsz hsz2 ho4 d0 (by omega) (by omega) HN.out); obtain ⟨zt, k0, k1, k2, f0, f1, f2⟩ := ho4)
     refine ⟨hlr.out, ?_⟩
     simp [intOf]; omega
    | true =>
     have HO := Lib.hid (show Own3 wr b (.int .i64 (Cal.Y day)) (.int .i64 (Cal.M day)) (.int .i64 (Cal.D day)) from ⟨zt, k0, k1, k2, f0, f1, f2⟩)
     have HF := Lib.hid hF
     clear hF
     cases hdf : Cal.dayFits (fF F) day with
     | false =>
      go_wp2
      clear k0 k1 k2 f0 f1 f2
      refine wp_region_det (F := ?F1) (by kernel_rfl) 67 rfl 13 [(36, .pointer (some ⟨b, 1, none⟩)), (37, .int .i64 (Cal.M day)), (38, .pointer (some ⟨w.heap.size, 256, none⟩)), (39, .pointer (some ⟨w.heap.size, 257, none⟩)), (40, .pointer (some ⟨w.heap.size, 257 + (Cal.M day).toNat, none⟩)), (41, .bool true), (42, .bool true), (43, fval F), (44, .agg #[.int .i64 (Cal.Y day), .int .i64 (Cal.M day), .int .i64 (Cal.D day)]), (45, .int .i64 day), (46, .int .i64 (Cal.W day)), (47, .bool false), (48, .bool false)] ?hF1 (by kernel_rfl) (fun w' => FAt w' w.heap.size 0 F ∧ Own3 w' b (.int .i64 (Cal.Y day)) (.int .i64 (Cal.M day)) (.int .i64 (Cal.D day)) ∧ Below w.heap.size w w') (fun w1 w' h hb => ⟨h.1.below hb, h.2.1.below hb, h.2.2.trans (hb.mono h.2.2.size)⟩) ⟨HF.out.below (Below.refl _ _).drew, HO.out.below (Below.refl _ _).drew, hB.drew⟩ ?_ ?_
      case hF1 =>
       simp only [List.foldl_cons, List.foldl_nil, List.setIfInBounds_toArray, List.set_cons_zero, List.set_cons_succ]
       rfl
      ·and_intros
       all_goals first | intro _ w1 hs | exact trivial
       all_goals
        obtain ⟨zt, k0, k1, k2, f0, f1, f2⟩ := hs.2.1
        have i0 : 0 ≤ Cal.M day := by omega
        have i1 : Cal.M day < 63 := by omega
        have hc : w1.cell? ⟨w.heap.size, 257 + (Cal.M day).toNat, none⟩ = some (.bool true) := by have := hs.1.has 4 (Cal.M day).toNat (by decide) (by omega); rw [hm] at this; simpa using this
        have hr := hs.1.range
        have hb := Below.refl w1.heap.size w1
        unfold Region.DetStep
        first | change Oper.wp _ _ _ _ _ _ | refine ⟨fun _ => ?_, fun h => absurd rfl h⟩
        first | exact wp_load_mid 38 (.tmp 4) rfl w.heap.size 0 rfl (fcells F) _ hr Tryz.underlying38 rfl (by rw [fcells_len]; kernel_rfl) ⟨rfl, hb⟩ | go_simp
       ·refine (weekday_c day (by omega) (by omega) _).mono ?_
        rintro r w4 ⟨rfl, hb4⟩
        exact ⟨rfl, hb4⟩
       ·refine (dayFits_i F day _).mono ?_
        rw [hdf]
        rintro r w4 ⟨rfl, hb4⟩
        exact ⟨rfl, hb4⟩
      ·intro w1 hs
       show Exit.then _ _ .normal _ w1
       obtain ⟨hF1, ho1, hB1⟩ := hs
       have hqn : Cal.Quiet (fF F) first (86400 * (day + 1)) := fun u h1 h2 => by
        by_cases c : u < 86400 * day + at_
        ·exact HQ.out u h1 c
        ·have := fits_day F day (u - 86400 * day) (by omega) (by omega)
         rw [show 86400 * day + (u - 86400 * day) = u by omega, hdf] at this
         simpa using this
       have HN := Lib.hid hqn
       clear hqn
       have hB3 := hB1
       have hF3 := hF1
       have ho3 := ho1
       clear HF HQ
       have hoA := Own3.alloc_new w1 (.int .i64 (Cal.Y day)) (.int .i64 (Cal.M day)) (.int .i64 (Cal.D day)) 135
       have hBA : Below w.heap.size w (w1.alloc (Obj.cells #[.int .i64 (Cal.Y day), .int .i64 (Cal.M day), .int .i64 (Cal.D day)] 135)) := hB3.alloc hB3.size _
       have hFA : FAt (w1.alloc (Obj.cells #[.int .i64 (Cal.Y day), .int .i64 (Cal.M day), .int .i64 (Cal.D day)] 135)) w.heap.size 0 F := hF3.below ((Below.refl _ _).alloc (Nat.le_refl _) _)
       have hsz := hF3.size
       have hsz2 := hB3.size
       obtain ⟨zt, k0, k1, k2, f0, f1, f2⟩ := ho3
       have HFA := Lib.hid hFA
       have HoA := Lib.hid hoA
       clear hF3 hFA hoA
       go_wp2_with (go_at_call 104; refine (tomorrow_c day (by omega) (by omega) _).mono ?_; rintro e w4 ⟨rfl, hb4⟩; have ho4 := HoA.out.below hb4; have hF4 := HFA.out.below hb4; have hB4 := hBA.trans (hb4.mono hBA.size); have hlr := Lib.hid (LocalR.next (last := last) hB4 hF4 hsz hsz2 ho4 d0 (by omega) (by omega) HN.out); obtain ⟨zt, k0, k1, k2, f0, f1, f2⟩ := ho4)
       refine ⟨hlr.out, ?_⟩
       simp [intOf]; omega
     | true =>
      go_wp2
      clear k0 k1 k2 f0 f1 f2
      refine wp_region_det (F := ?F2) (by kernel_rfl) 67 rfl 13 [(36, .pointer (some ⟨b, 1, none⟩)), (37, .int .i64 (Cal.M day)), (38, .pointer (some ⟨w.heap.size, 256, none⟩)), (39, .pointer (some ⟨w.heap.size, 257, none⟩)), (40, .pointer (some ⟨w.heap.size, 257 + (Cal.M day).toNat, none⟩)), (41, .bool true), (42, .bool true), (43, fval F), (44, .agg #[.int .i64 (Cal.Y day), .int .i64 (Cal.M day), .int .i64 (Cal.D day)]), (45, .int .i64 day), (46, .int .i64 (Cal.W day)), (47, .bool true), (48, .bool true)] ?hF2 (by kernel_rfl) (fun w' => FAt w' w.heap.size 0 F ∧ Own3 w' b (.int .i64 (Cal.Y day)) (.int .i64 (Cal.M day)) (.int .i64 (Cal.D day)) ∧ Below w.heap.size w w') (fun w1 w' h hb => ⟨h.1.below hb, h.2.1.below hb, h.2.2.trans (hb.mono h.2.2.size)⟩) ⟨HF.out.below (Below.refl _ _).drew, HO.out.below (Below.refl _ _).drew, hB.drew⟩ ?_ ?_
      case hF2 =>
       simp only [List.foldl_cons, List.foldl_nil, List.setIfInBounds_toArray, List.set_cons_zero, List.set_cons_succ]
       rfl
      ·and_intros
       all_goals first | intro _ w1 hs | exact trivial
       all_goals
        obtain ⟨zt, k0, k1, k2, f0, f1, f2⟩ := hs.2.1
        have i0 : 0 ≤ Cal.M day := by omega
        have i1 : Cal.M day < 63 := by omega
        have hc : w1.cell? ⟨w.heap.size, 257 + (Cal.M day).toNat, none⟩ = some (.bool true) := by have := hs.1.has 4 (Cal.M day).toNat (by decide) (by omega); rw [hm] at this; simpa using this
        have hr := hs.1.range
        have hb := Below.refl w1.heap.size w1
        unfold Region.DetStep
        first | change Oper.wp _ _ _ _ _ _ | refine ⟨fun _ => ?_, fun h => absurd rfl h⟩
        first | exact wp_load_mid 38 (.tmp 4) rfl w.heap.size 0 rfl (fcells F) _ hr Tryz.underlying38 rfl (by rw [fcells_len]; kernel_rfl) ⟨rfl, hb⟩ | go_simp
       ·refine (weekday_c day (by omega) (by omega) _).mono ?_
        rintro r w4 ⟨rfl, hb4⟩
        exact ⟨rfl, hb4⟩
       ·refine (dayFits_i F day _).mono ?_
        rw [hdf]
        rintro r w4 ⟨rfl, hb4⟩
        exact ⟨rfl, hb4⟩
      ·intro w1 hs
       show Exit.then _ _ .normal _ w1
       obtain ⟨hF1, ho1, hB1⟩ := hs
       go_wp2_with (first
        | (refine wpList_load_mid rfl 38 (.tmp 4) rfl w.heap.size 0 rfl (fcells F) _ (hF1.range) Tryz.underlying38 rfl (by rw [fcells_len]; kernel_rfl) ?_)
        | fail)
       refine (time_i F at_ a0 a1 _).mono ?_
       rintro e w2 ⟨⟨r, hans, rfl⟩, hb2⟩
       have hF2 := hF1.below hb2
       have ho2 := ho1.below hb2
       have hB2 := hB1.trans (hb2.mono hB1.size)
       clear hF1 ho1 hB1
       cases r with
       | some tt =>
        obtain ⟨t0, t1, t2, t3⟩ := hans
        have hr : LocalQ F first last w (.returned (.tuple #[.int .i64 (86400 * day + (tt : Int)), .bool true])) w2 :=
         ⟨⟨some (86400 * day + (tt : Int)), ⟨by omega, by rw [fits_day F day tt (by omega) (by omega), hm, hdf, show ((tt : Int)).toNat = tt by omega, t2]; rfl, by rw [show (86400 * day + (tt : Int)) / 86400 = day by omega]; exact hy, fun u h1 h2 => by
          by_cases c : u < 86400 * day + at_
          ·exact HQ.out u h1 c
          ·have := fits_day F day (u - 86400 * day) (by omega) (by omega)
           rw [show 86400 * day + (u - 86400 * day) = u by omega, t3 (u - 86400 * day).toNat (by omega) (by omega)] at this
           simpa using this⟩, rfl⟩, hB2⟩
        have HR := Lib.hid hr
        have g1 : (0 : Int) ≤ (tt : Int) := by omega
        have g2 : (86400 * day + (tt : Int) < 4611686018427387904) := by omega
        clear hr t0 t1 t2 t3 HQ
        simp only [optInt]
        go_wp2
        go_ret2
        exact HR.out
       | none =>
        simp only [optInt]
        have hqn : Cal.Quiet (fF F) first (86400 * (day + 1)) := fun u h1 h2 => by
          by_cases c : u < 86400 * day + at_
          ·exact HQ.out u h1 c
          ·have := fits_day F day (u - 86400 * day) (by omega) (by omega)
           rw [show 86400 * day + (u - 86400 * day) = u by omega, hans (u - 86400 * day).toNat (by omega) (by omega)] at this
           simpa using this
        have HN := Lib.hid hqn
        clear hqn
        have hB3 := hB2
        have hF3 := hF2
        have ho3 := ho2
        clear HF HQ
        have hoA := Own3.alloc_new w2 (.int .i64 (Cal.Y day)) (.int .i64 (Cal.M day)) (.int .i64 (Cal.D day)) 135
        have hBA : Below w.heap.size w (w2.alloc (Obj.cells #[.int .i64 (Cal.Y day), .int .i64 (Cal.M day), .int .i64 (Cal.D day)] 135)) := hB3.alloc hB3.size _
        have hFA : FAt (w2.alloc (Obj.cells #[.int .i64 (Cal.Y day), .int .i64 (Cal.M day), .int .i64 (Cal.D day)] 135)) w.heap.size 0 F := hF3.below ((Below.refl _ _).alloc (Nat.le_refl _) _)
        have hsz := hF3.size
        have hsz2 := hB3.size
        obtain ⟨zt, k0, k1, k2, f0, f1, f2⟩ := ho3
        have HFA := Lib.hid hFA
        have HoA := Lib.hid hoA
        clear hF3 hFA hoA
        go_wp2_with (go_at_call 104; refine (tomorrow_c day (by omega) (by omega) _).mono ?_; rintro e w4 ⟨rfl, hb4⟩; have ho4 := HoA.out.below hb4; have hF4 := HFA.out.below hb4; have hB4 := hBA.trans (hb4.mono hBA.size); have hlr := Lib.hid (LocalR.next (last := last) hB4 hF4 hsz hsz2 ho4 d0 (by omega) (by omega) HN.out); obtain ⟨zt, k0, k1, k2, f0, f1, f2⟩ := ho4)
        refine ⟨hlr.out, ?_⟩
        simp [intOf]; omega
   ·have hr : LocalQ F first last w (.returned (.tuple #[.int .i64 0, .bool false])) wr :=
     ⟨⟨none, Cal.Ans.none_of hq (by rw [show (86400 * day + at_) / 86400 = day by omega]; omega), rfl⟩, hB⟩
    have HR := Lib.hid hr
    clear hr hq hF
    go_wp2
    go_ret2
    exact HR.out
abbrev zUTC : Value := .agg #[.slice none 0 0, .slice none 0 0, .slice none 0 0, .slice none 0 0]
theorem offset_utc (s : Int) (w : World) : Calls Tryz.prog 72 #[zUTC, .int .i64 s] w fun e w' => e = .returned (.int .i64 0) ∧ Below w.heap.size w w' := by
 go_enter Tryz.func72, Tryz.ntmps72
 go_wp2
 refine wp_loop_once ?_
 go_wp2
 go_ret
 exact ⟨rfl, (Below.refl _ _).alloc (Nat.le_refl _) _⟩
theorem change_utc (s : Int) (w : World) : Calls Tryz.prog 73 #[zUTC, .int .i64 s] w fun e w' => e = .returned (.tuple #[.int .i64 0, .bool false]) ∧ Below w.heap.size w w' := by
 go_enter Tryz.func73, Tryz.ntmps73
 go_wp2
 refine wp_loop_once ?_
 go_wp2
 go_ret2
 exact ⟨rfl, (Below.refl _ _).alloc (Nat.le_refl _) _⟩
structure NM (w0 : World) (F : CF) (s ns : Int) (w : World) : Prop where
 f : FAt w w0.heap.size 0 F
 i0 : w.cell? ⟨w0.heap.size + 1, 0, none⟩ = some (.int .i64 s)
 z0 : w.cell? ⟨w0.heap.size + 1 + 1, 0, none⟩ = some (.slice none 0 0)
 z1 : w.cell? ⟨w0.heap.size + 1 + 1, 1, none⟩ = some (.slice none 0 0)
 z2 : w.cell? ⟨w0.heap.size + 1 + 1, 2, none⟩ = some (.slice none 0 0)
 z3 : w.cell? ⟨w0.heap.size + 1 + 1, 3, none⟩ = some (.slice none 0 0)
 r0 : w.cell? ⟨w0.heap.size + 1 + 1 + 1, 0, none⟩ = some (.int .i64 0)
 r1 : w.cell? ⟨w0.heap.size + 1 + 1 + 1, 1, none⟩ = some (.int .i64 0)
 q0 : w.frozen? ⟨w0.heap.size + 1 + 1 + 1, 0, none⟩ = false
 q1 : w.frozen? ⟨w0.heap.size + 1 + 1 + 1, 1, none⟩ = false
 size : w0.heap.size + 1 + 1 + 1 < w.heap.size
 below : Below w0.heap.size w0 w
theorem NM.goes {w0 w w' : World} {F : CF} {s ns : Int} (h : NM w0 F s ns w) (hb : Below w.heap.size w w') : NM w0 F s ns w' := by
 have hz := h.size
 exact ⟨h.f.below hb, (hb.cell (p := ⟨_, 0, none⟩) (by simp; omega)).trans h.i0, (hb.cell (p := ⟨_, 0, none⟩) (by simp; omega)).trans h.z0, (hb.cell (p := ⟨_, 1, none⟩) (by simp; omega)).trans h.z1, (hb.cell (p := ⟨_, 2, none⟩) (by simp; omega)).trans h.z2, (hb.cell (p := ⟨_, 3, none⟩) (by simp; omega)).trans h.z3,
  (hb.cell (p := ⟨_, 0, none⟩) (by simp; omega)).trans h.r0, (hb.cell (p := ⟨_, 1, none⟩) (by simp; omega)).trans h.r1, (hb.frozen (p := ⟨_, 0, none⟩) (by simp; omega)).trans h.q0, (hb.frozen (p := ⟨_, 1, none⟩) (by simp; omega)).trans h.q1, Nat.lt_of_lt_of_le hz hb.size, h.below.trans (hb.mono h.below.size)⟩
def SpecQ (F : CF) (s : Int) (w : World) (e : Ending) (w' : World) : Prop :=
 (∃ v : Option Int, Cal.Ans (fF F) (s + 1) (Cal.Y ((s + 1) / 86400) + 5) v ∧ e = .returned (.tuple #[.agg #[.int .i64 (v.getD 0), .int .i64 0], .bool v.isSome])) ∧ Below w.heap.size w w'
theorem specNext_c (F : CF) (s ns : Int) (h0 : -62135596800 ≤ s) (h1 : s ≤ 700000000000) (w : World) :
  Calls Tryz.prog 35 #[fval F, .agg #[.int .i64 s, .int .i64 ns], zUTC] w (SpecQ F s w) := by
 have hlast : Cal.Y ((s + 1) / 86400) + 5 ≤ 27390 := by have := year_least (n := (s + 1) / 86400) (by omega); omega
 have hyd := date_in (s + 1) (by omega) (by omega)
 obtain ⟨y0, y1⟩ := hyd
 go_enter Tryz.func35, Tryz.ntmps35
 go_upto_region 1 with (fail)
 have hN : NM w F s ns ((((w.alloc (Obj.cells (fcells F).toArray 38)).alloc (Obj.cells #[Value.int IntKind.i64 s, Value.int IntKind.i64 ns] 23)).alloc (Obj.cells #[Value.slice none 0 0, Value.slice none 0 0, Value.slice none 0 0, Value.slice none 0 0] 28)).alloc (Obj.cells #[Value.int IntKind.i64 0, Value.int IntKind.i64 0] 23)) := by
  have hB0 : Below (w.alloc (Obj.cells (fcells F).toArray 38)).heap.size (w.alloc (Obj.cells (fcells F).toArray 38)) ((((w.alloc (Obj.cells (fcells F).toArray 38)).alloc (Obj.cells #[Value.int IntKind.i64 s, Value.int IntKind.i64 ns] 23)).alloc (Obj.cells #[Value.slice none 0 0, Value.slice none 0 0, Value.slice none 0 0, Value.slice none 0 0] 28)).alloc (Obj.cells #[Value.int IntKind.i64 0, Value.int IntKind.i64 0] 23)) :=
   (((Below.refl _ _).alloc (Nat.le_refl _) _).alloc (by simp) _).alloc (by simp) _
  exact ⟨(FAt.boxed w F 38).below hB0, by simp [go_sem], by simp [go_sem], by simp [go_sem], by simp [go_sem], by simp [go_sem], by simp [go_sem], by simp [go_sem], by simp [go_sem], by simp [go_sem], by simp,
   ((Below.refl _ _).alloc (Nat.le_refl _) _).trans (hB0.mono (by simp))⟩
 generalize (((w.alloc (Obj.cells (fcells F).toArray 38)).alloc (Obj.cells #[Value.int IntKind.i64 s, Value.int IntKind.i64 ns] 23)).alloc (Obj.cells #[Value.slice none 0 0, Value.slice none 0 0, Value.slice none 0 0, Value.slice none 0 0] 28)).alloc (Obj.cells #[Value.int IntKind.i64 0, Value.int IntKind.i64 0] 23) = W at *
 have b1 : -719162 ≤ (s + 1) / 86400 := by omega
 have b2 : (s + 1) / 86400 ≤ 9999999 := by omega
 have hM := hN
 obtain ⟨f, i0, z0, z1, z2, z3, r0, r1, q0, q1, hz, hB⟩ := hM
 clear f hB
 go_wp2_with (first
  | (refine wpList_exec (.field 135 (.tmp 25) 0) rfl rfl (.int .i64 (Cal.Y ((s + 1) / 86400))) (by kernel_rfl) ?_)
  | (go_at_call 72; refine (offset_utc _ _).mono ?_; rintro e w1 ⟨rfl, hb⟩; replace hN := hN.goes hb; clear i0 z0 z1 z2 z3 r0 r1 q0 q1 hz; have hM := hN; obtain ⟨f, i0, z0, z1, z2, z3, r0, r1, q0, q1, hz, hB⟩ := hM; clear f hB)
  | (go_at_call 71; refine (floorDiv_c _ _ (by decide) (by omega) (by omega) _).mono ?_; rintro e w1 ⟨rfl, hb⟩; replace hN := hN.goes hb; clear i0 z0 z1 z2 z3 r0 r1 q0 q1 hz; have hM := hN; obtain ⟨f, i0, z0, z1, z2, z3, r0, r1, q0, q1, hz, hB⟩ := hM; clear f hB)
  | (go_at_call 70; refine (dateOf_c _ b1 (by omega) _).mono ?_; rintro e w1 ⟨rfl, hb⟩; replace hN := hN.goes hb; clear i0 z0 z1 z2 z3 r0 r1 q0 q1 hz; have hM := hN; obtain ⟨f, i0, z0, z1, z2, z3, r0, r1, q0, q1, hz, hB⟩ := hM; clear f hB))
 refine wp_loop_once ?_
 go_wp2_with (first
  | (refine wpList_load_mid rfl 38 (.tmp 3) rfl w.heap.size 0 rfl (fcells F) _ (hN.f.range) Tryz.underlying38 rfl (by rw [fcells_len]; kernel_rfl) ?_)
  | (go_at_call 72; refine (offset_utc _ _).mono ?_; rintro e w1 ⟨rfl, hb⟩; replace hN := hN.goes hb; clear i0 z0 z1 z2 z3 r0 r1 q0 q1 hz; have hM := hN; obtain ⟨f, i0, z0, z1, z2, z3, r0, r1, q0, q1, hz, hB⟩ := hM; clear f hB)
  | (go_at_call 73; refine (change_utc _ _).mono ?_; rintro e w1 ⟨rfl, hb⟩; replace hN := hN.goes hb; clear i0 z0 z1 z2 z3 r0 r1 q0 q1 hz; have hM := hN; obtain ⟨f, i0, z0, z1, z2, z3, r0, r1, q0, q1, hz, hB⟩ := hM; clear f hB))
 refine (local_c F (s + 1) _ (by omega) (by omega) hlast _).mono ?_
 rintro e w2 ⟨⟨v, hans, rfl⟩, hb⟩
 replace hN := hN.goes hb
 clear i0 z0 z1 z2 z3 r0 r1 q0 q1 hz
 have hM := hN
 obtain ⟨f, i0, z0, z1, z2, z3, r0, r1, q0, q1, hz, hB⟩ := hM
 have HB := Lib.hid hB
 clear f hB
 cases v with
 | some v =>
  have hr : ∀ w', Below w.heap.size w w' → SpecQ F s w (.returned (.tuple #[.agg #[.int .i64 v, .int .i64 0], .bool true])) w' := fun w' h => ⟨⟨some v, hans, rfl⟩, h⟩
  have hvb : -62135596800 ≤ v ∧ v ≤ 900000000000 := by
   have h3 := hans.2.2.1
   have := year_below h3 (by omega)
   have := hans.1
   omega
  obtain ⟨v0, v1⟩ := hvb
  have HR := Lib.hid hr
  clear hr hans
  simp only [Option.getD_some, Option.isSome_some]
  go_wp2
  exact bodyPost_ret (v := .tuple #[.agg #[.int .i64 v, .int .i64 0], .bool true]) (by simp [results, Tryz.results35, go_sem, r0, r1, q0, q1, hz]) rfl
   (HR.out _ ((HB.out.setCell (by simp; omega) _).setCell (by simp; omega) _))
 | none =>
  have hr : ∀ w', Below w.heap.size w w' → SpecQ F s w (.returned (.tuple #[.agg #[.int .i64 0, .int .i64 0], .bool false])) w' := fun w' h => ⟨⟨none, hans, rfl⟩, h⟩
  have HR := Lib.hid hr
  clear hr hans
  simp only [Option.getD_none, Option.isSome_none]
  go_wp2
  exact bodyPost_ret (v := .tuple #[.agg #[.int .i64 0, .int .i64 0], .bool false]) (by simp [results, Tryz.results35, go_sem, r0, r1, q0, q1, hz]) rfl
   (HR.out _ ((HB.out.setCell (by simp; omega) _).setCell (by simp; omega) _))
def mcells (every : Bool) (delay : Int) (F : CF) (utc : Bool) : List Value := .bool every :: .int .i64 delay :: (fcells F ++ [.bool utc])
theorem mcells_len (every : Bool) (delay : Int) (F : CF) (utc : Bool) : (mcells every delay F utc).length = 387 := by simp [mcells, fcells_len]
theorem mcells_sets (every : Bool) (delay : Int) (F : CF) (utc : Bool) (j : Nat) (h : j < 384) : (mcells every delay F utc)[2 + j]? = (fcells F)[j]? := by
 rw [Nat.add_comm]
 simp only [mcells, List.getElem?_cons_succ]
 rw [List.getElem?_append_left (by rw [fcells_len]; exact h)]
theorem mcells_utc (every : Bool) (delay : Int) (F : CF) (utc : Bool) : (mcells every delay F utc)[386]? = some (.bool utc) := by
 simp only [mcells, List.getElem?_cons_succ]
 rw [List.getElem?_append_right (by rw [fcells_len]; omega), fcells_len]; rfl
abbrev mval (every : Bool) (delay : Int) (F : CF) (utc : Bool) : Value := .agg (mcells every delay F utc).toArray
structure MAt (w : World) (b : Nat) (every : Bool) (delay : Int) (F : CF) (utc : Bool) : Prop where
 size : b < w.heap.size
 range : w.rangeAt b 0 (mcells every delay F utc)
theorem MAt.below {w w' : World} {b : Nat} {every : Bool} {delay : Int} {F : CF} {utc : Bool} (h : MAt w b every delay F utc) (hb : Below w.heap.size w w') : MAt w' b every delay F utc :=
 ⟨Nat.lt_of_lt_of_le h.1 hb.size, fun j v hv => (hb.cell (p := ⟨b, _, none⟩) h.1).trans (h.2 j v hv)⟩
theorem MAt.boxed (w : World) (every : Bool) (delay : Int) (F : CF) (utc : Bool) (T : TypeId) : MAt (w.alloc (.cells (mcells every delay F utc).toArray T)) w.heap.size every delay F utc :=
 ⟨by simp, fun j v hv => by rw [Nat.zero_add]; simp [go_sem, hv]⟩
theorem MAt.c0 {w : World} {b : Nat} {every : Bool} {delay : Int} {F : CF} {utc : Bool} (h : MAt w b every delay F utc) : w.cell? ⟨b, 0, none⟩ = some (.bool every) := h.range 0 _ rfl
theorem MAt.c1 {w : World} {b : Nat} {every : Bool} {delay : Int} {F : CF} {utc : Bool} (h : MAt w b every delay F utc) : w.cell? ⟨b, 1, none⟩ = some (.int .i64 delay) := h.range 1 _ rfl
theorem MAt.sets {w : World} {b : Nat} {every : Bool} {delay : Int} {F : CF} {utc : Bool} (h : MAt w b every delay F utc) : w.rangeAt b 2 (fcells F) := by
 intro j v hv
 have hj : j < 384 := by
  by_cases c : j < 384; exact c
  rw [List.getElem?_eq_none (by rw [fcells_len]; omega)] at hv; cases hv
 have := h.range (2 + j) v (by rw [mcells_sets _ _ _ _ _ hj]; exact hv)
 rwa [Nat.zero_add] at this
theorem delayNext_s (d s ns : Int) (h0 : -1000000000000 ≤ s) (h1 : s ≤ 1000000000000) (hd0 : 0 ≤ d) (hd1 : d ≤ 9223372036854775807) (w : World) :
  Calls Tryz.prog 34 #[.int .i64 d, .agg #[.int .i64 s, .int .i64 ns]] w fun e w' => e = .returned (.agg #[.int .i64 (s + d / 1000000000), .int .i64 0]) ∧ Below w.heap.size w w' := by
 go_enter Tryz.func34, Tryz.ntmps34
 go_wp2
 exact bodyPost_ret (v := .agg #[.int .i64 (s + d / 1000000000), .int .i64 0]) (by simp [results, Tryz.results34, go_sem]) rfl
  ⟨rfl, ((Below.refl _ _).alloc (Nat.le_refl _) _).alloc (by simp) _⟩
theorem after_sets (F : CF) (d : Int) (utc : Bool) (s ns : Int) (h0 : -62135596800 ≤ s) (h1 : s ≤ 700000000000) (w : World) :
  Calls Tryz.prog 12 #[mval false d F utc, .agg #[.int .i64 s, .int .i64 ns], zUTC] w (SpecQ F s w) := by
 go_enter Tryz.func12, Tryz.ntmps12
 go_upto_region 1 with (fail)
 have hM : MAt ((((w.alloc (Obj.cells (mcells false d F utc).toArray 40)).alloc (Obj.cells #[Value.int IntKind.i64 s, Value.int IntKind.i64 ns] 23)).alloc (Obj.cells #[Value.slice none 0 0, Value.slice none 0 0, Value.slice none 0 0, Value.slice none 0 0] 28)).alloc (Obj.cells #[Value.int IntKind.i64 0, Value.int IntKind.i64 0] 23)) w.heap.size false d F utc :=
  (MAt.boxed w false d F utc 40).below ((((Below.refl _ _).alloc (Nat.le_refl _) _).alloc (by simp) _).alloc (by simp) _)
 have c0 := hM.c0
 have hr := hM.sets
 have hB : Below w.heap.size w ((((w.alloc (Obj.cells (mcells false d F utc).toArray 40)).alloc (Obj.cells #[Value.int IntKind.i64 s, Value.int IntKind.i64 ns] 23)).alloc (Obj.cells #[Value.slice none 0 0, Value.slice none 0 0, Value.slice none 0 0, Value.slice none 0 0] 28)).alloc (Obj.cells #[Value.int IntKind.i64 0, Value.int IntKind.i64 0] 23)) :=
  ((((Below.refl _ _).alloc (Nat.le_refl _) _).alloc (by simp) _).alloc (by simp; omega) _).alloc (by simp; omega) _
 clear hM
 go_wp2_with (refine wpList_load_mid rfl 38 (.tmp 14) rfl w.heap.size 2 rfl (fcells F) _ hr Tryz.underlying38 rfl (by rw [fcells_len]; kernel_rfl) ?_)
 refine (specNext_c F s ns h0 h1 _).mono ?_
 rintro e w2 ⟨⟨v, hans, rfl⟩, hb⟩
 have hz : w.heap.size + 3 < w2.heap.size := by have := hb.size; simp at this; omega
 have q0 : w2.frozen? ⟨w.heap.size + 1 + 1 + 1, 0, none⟩ = false := by rw [hb.frozen (p := ⟨_, 0, none⟩) (by simp)]; simp [go_sem]
 have q1 : w2.frozen? ⟨w.heap.size + 1 + 1 + 1, 1, none⟩ = false := by rw [hb.frozen (p := ⟨_, 1, none⟩) (by simp)]; simp [go_sem]
 have r0 : w2.cell? ⟨w.heap.size + 1 + 1 + 1, 0, none⟩ = some (.int .i64 0) := by rw [hb.cell (p := ⟨_, 0, none⟩) (by simp)]; simp [go_sem]
 have r1 : w2.cell? ⟨w.heap.size + 1 + 1 + 1, 1, none⟩ = some (.int .i64 0) := by rw [hb.cell (p := ⟨_, 1, none⟩) (by simp)]; simp [go_sem]
 have HB := Lib.hid (hB.trans (hb.mono hB.size))
 have hr : ∀ w', Below w.heap.size w w' → SpecQ F s w (.returned (.tuple #[.agg #[.int .i64 (v.getD 0), .int .i64 0], .bool v.isSome])) w' := fun w' h => ⟨⟨v, hans, rfl⟩, h⟩
 have HR := Lib.hid hr
 clear hr hans hB c0
 generalize v.getD 0 = vv at *
 generalize v.isSome = vb at *
 go_wp2
 exact bodyPost_ret (v := .tuple #[.agg #[.int .i64 vv, .int .i64 0], .bool vb]) (by simp [results, Tryz.results12, go_sem, r0, r1, q0, q1, hz]) rfl
  (HR.out _ ((HB.out.setCell (by simp; omega) _).setCell (by simp; omega) _))
theorem after_every (F : CF) (d : Int) (utc : Bool) (s ns : Int) (h0 : -62135596800 ≤ s) (h1 : s ≤ 700000000000) (hd0 : 0 ≤ d) (hd1 : d ≤ 9223372036854775807) (w : World) :
  Calls Tryz.prog 12 #[mval true d F utc, .agg #[.int .i64 s, .int .i64 ns], zUTC] w fun e w' => e = .returned (.tuple #[.agg #[.int .i64 (s + d / 1000000000), .int .i64 0], .bool true]) ∧ Below w.heap.size w w' := by
 have hb0 : -1000000000000 ≤ s + d / 1000000000 ∧ s + d / 1000000000 ≤ 1000000000000 := by omega
 obtain ⟨hb1, hb2⟩ := hb0
 go_enter Tryz.func12, Tryz.ntmps12
 go_upto_region 1 with (fail)
 have hM : MAt ((((w.alloc (Obj.cells (mcells true d F utc).toArray 40)).alloc (Obj.cells #[Value.int IntKind.i64 s, Value.int IntKind.i64 ns] 23)).alloc (Obj.cells #[Value.slice none 0 0, Value.slice none 0 0, Value.slice none 0 0, Value.slice none 0 0] 28)).alloc (Obj.cells #[Value.int IntKind.i64 0, Value.int IntKind.i64 0] 23)) w.heap.size true d F utc :=
  (MAt.boxed w true d F utc 40).below ((((Below.refl _ _).alloc (Nat.le_refl _) _).alloc (by simp) _).alloc (by simp) _)
 have c0 := hM.c0
 have c1 := hM.c1
 have hB : Below w.heap.size w ((((w.alloc (Obj.cells (mcells true d F utc).toArray 40)).alloc (Obj.cells #[Value.int IntKind.i64 s, Value.int IntKind.i64 ns] 23)).alloc (Obj.cells #[Value.slice none 0 0, Value.slice none 0 0, Value.slice none 0 0, Value.slice none 0 0] 28)).alloc (Obj.cells #[Value.int IntKind.i64 0, Value.int IntKind.i64 0] 23)) :=
  ((((Below.refl _ _).alloc (Nat.le_refl _) _).alloc (by simp) _).alloc (by simp; omega) _).alloc (by simp; omega) _
 clear hM
 go_wp2_with fail
 refine (delayNext_s d s ns (by omega) (by omega) hd0 hd1 _).mono ?_
 rintro e w2 ⟨rfl, hb⟩
 have hz : w.heap.size + 3 < w2.heap.size := by have := hb.size; simp at this; omega
 have q0 : w2.frozen? ⟨w.heap.size + 1 + 1 + 1, 0, none⟩ = false := by rw [hb.frozen (p := ⟨_, 0, none⟩) (by simp)]; simp [go_sem]
 have q1 : w2.frozen? ⟨w.heap.size + 1 + 1 + 1, 1, none⟩ = false := by rw [hb.frozen (p := ⟨_, 1, none⟩) (by simp)]; simp [go_sem]
 have r0 : w2.cell? ⟨w.heap.size + 1 + 1 + 1, 0, none⟩ = some (.int .i64 0) := by rw [hb.cell (p := ⟨_, 0, none⟩) (by simp)]; simp [go_sem]
 have r1 : w2.cell? ⟨w.heap.size + 1 + 1 + 1, 1, none⟩ = some (.int .i64 0) := by rw [hb.cell (p := ⟨_, 1, none⟩) (by simp)]; simp [go_sem]
 have HB := Lib.hid (hB.trans (hb.mono hB.size))
 clear hB c0 c1
 go_wp2
 exact bodyPost_ret (v := .tuple #[.agg #[.int .i64 (s + d / 1000000000), .int .i64 0], .bool true]) (by simp [results, Tryz.results12, go_sem, r0, r1, q0, q1, hz]) rfl
  ⟨rfl, (HB.out.setCell (by simp; omega) _).setCell (by simp; omega) _⟩
end Go.Proofs.YtcjdideliifkhaaGreatDoor
