import Derived.Test.YtcjdideliifkhaaGreatDoorB12
set_option maxRecDepth 100000
set_option maxHeartbeats 16000000
namespace Go.Proofs.YtcjdideliifkhaaGreatDoor
open Go.RowKit
set_option linter.unusedVariables false
set_option linter.unusedSimpArgs false
def blockAt (id : Nat) : Code → Option Code
 | .seq a b => match blockAt id a with | some o => some o | none => blockAt id b
 | .cond _ a b => match blockAt id a with | some o => some o | none => blockAt id b
 | .block i c => if i = id then some (.block i c) else blockAt id c
 | .loop c => blockAt id c
 | .scope c => blockAt id c
 | _ => none
theorem seq_of {P : Program} {R c : Code} {Q : Exit → Act → World → Prop} {K : Act → World → Prop} {a : Act} {w : World} (h : R.wp P (Exit.then K (fun _ _ _ => False)) a w) (h2 : ∀ a w, K a w → c.wp P Q a w) : (Code.seq R c).wp P Q a w :=
 wp_seq (wp_mono h (fun e a w hq => by cases e <;> first | exact False.elim hq | exact h2 _ _ hq))
section
variable {w0 : World} {b u o t3 t4 : Nat} {lv : Value} {se mi ho dom mo dow : Int} {loc : Option Addr} {last first x0 : Int}
theorem tail_end {P : Program} {tw : Tmp} {y : Int} {wv : Bool} {a : Act} {w : World} (h : Inv w0 b u o t3 t4 lv se mi ho dom mo dow loc last true y a w ∧ a.tmps.getD tw undef = .bool wv) :
  (Code.cond (.tmp tw) (.goto 0) .skip).wp P (TailQ w0 b u o t3 t4 lv se mi ho dom mo dow loc last y wv) a w := by
 obtain ⟨hi, ht⟩ := h
 cases wv with
 | true => exact wp_cond_true ht (wp_goto ⟨rfl, hi⟩)
 | false => exact wp_cond_false ht (wp_skip ⟨rfl, hi⟩)
theorem loop1 (hlast : last ≤ 27390) (c : Code) (hc : blockAt 0 (Tryz.f202.body.getD .skip) = some c) {a : Act} {w : World}
  (h : ∃ (added : Bool) (x : Int), Inv w0 b u o t3 t4 lv se mi ho dom mo dow loc last added x a w ∧ Pl (fOf se mi ho dom mo dow) first last added x ∧ x0 ≤ x ∧ Cal.Y (x / 86400) ≤ last ∧ True) :
  c.wp Tryz.prog (LoopQ w0 b u o t3 t4 lv se mi ho dom mo dow loc first last x0 (fun x => True ∧ hasBit mo (Cal.M (x / 86400)) = true)) a w := by
 simp [Tryz.f202, blockAt] at hc
 subst hc
 refine loop_gen hlast (fun _ => True) (fun x => hasBit mo (Cal.M (x / 86400))) (fun x => 86400 * (x / 86400 - Cal.D (x / 86400) + 1)) (fun x => 86400 * Cal.nm (x / 86400)) (fun y => Cal.M (y / 86400) == 1)
  (fun added x a w h0 h1 hi => rg12 h0 h1 hi _ (by kernel_rfl)) (fun added x a w hi => rg13 hi _ (by kernel_rfl)) (fun x a w hi => rg14 hi _ (by kernel_rfl)) (fun x a w h0 h1 hi => rg15 h0 h1 hi _ (by kernel_rfl)) ?_ ?_ ?_ ?_ ?_ ?_ ?_ h
 ·intro x a w h0 h1 hE hy hi
  have hms := ms_facts (x / 86400)
  have hml := ms_least (n := x / 86400) (date_in x h0 h1).1
  have hdv := (Cal.date_valid (x / 86400)).2.2.1
  have hyb := year_below hy (by omega)
  have hnm := Cal.nm_gt (x / 86400)
  have e : 86400 * (x / 86400 - Cal.D (x / 86400) + 1) / 86400 = x / 86400 - Cal.D (x / 86400) + 1 := by omega
  refine seq_of (rg16 (by omega) (by omega) (by rw [e]; exact hms.2.2.1) (by omega) hi _ (by kernel_rfl)) fun a1 w1 hi1 => ?_
  rw [e, hms.2.2.2] at hi1
  exact seq_of (rg17 (by omega) (by omega) hi1 _ (by kernel_rfl)) fun a2 w2 hi2 => tail_end hi2
 ·intro x hal hE
  have h := hal.month (f := fOf se mi ho dom mo dow) hE
  show 86400 * (x / 86400 - Cal.D (x / 86400) + 1) = x
  omega
 ·intro x h0 h1 hE
  have hnm := Cal.nm_gt (x / 86400)
  show x < 86400 * Cal.nm (x / 86400)
  omega
 ·intro x h0 hy
  have hyb := year_below hy (by omega)
  have hnm := Cal.nm_gt (x / 86400)
  show 86400 * Cal.nm (x / 86400) ≤ 900000000000
  omega
 ·intro x h0 _ hE
  exact Cal.quiet_month (f := fOf se mi ho dom mo dow) hE
 ·intro x h0 _ hE
  have e : 86400 * Cal.nm (x / 86400) / 86400 = Cal.nm (x / 86400) := by omega
  have hnd := Cal.nm_date (x / 86400)
  have := (Cal.date_valid (x / 86400)).2.1
  exact .inl ⟨by rw [e]; by_cases h12 : Cal.M (x / 86400) < 12; exact (hnd.1 h12).2.2; exact (hnd.2 (by omega)).2.2, by omega⟩
 ·intro x h0 _ hE hw
  have e : 86400 * Cal.nm (x / 86400) / 86400 = Cal.nm (x / 86400) := by omega
  have hnd := Cal.nm_date (x / 86400)
  have := (Cal.date_valid (x / 86400)).2.1
  refine ⟨trivial, ?_⟩
  simp only [e] at hw ⊢
  by_cases h12 : Cal.M (x / 86400) < 12
  ·exact (hnd.1 h12).1
  ·rw [(hnd.2 (by omega)).2.1] at hw; cases hw
theorem next_in {n : Int} (h : (Cal.D (n + 1) == 1) = false) : Cal.Y (n + 1) = Cal.Y n ∧ Cal.M (n + 1) = Cal.M n := by
 have b := Cal.tomorrow n
 by_cases c1 : Cal.D n < Cal.mdays (Cal.Y n) (Cal.M n)
 ·exact ⟨(b.1 c1).1, (b.1 c1).2.1⟩
 ·by_cases c2 : Cal.M n < 12
  ·rw [(b.2.1 c1 c2).2.2] at h; cases h
  ·rw [(b.2.2 c1 c2).2.2] at h; cases h
theorem loop2 (hlast : last ≤ 27390) (c : Code) (hc : blockAt 2 (Tryz.f202.body.getD .skip) = some c) {a : Act} {w : World}
  (h : ∃ (added : Bool) (x : Int), Inv w0 b u o t3 t4 lv se mi ho dom mo dow loc last added x a w ∧ Pl (fOf se mi ho dom mo dow) first last added x ∧ x0 ≤ x ∧ Cal.Y (x / 86400) ≤ last ∧ hasBit mo (Cal.M (x / 86400)) = true) :
  c.wp Tryz.prog (LoopQ w0 b u o t3 t4 lv se mi ho dom mo dow loc first last x0 (fun x => hasBit mo (Cal.M (x / 86400)) = true ∧ Cal.dayFits (fOf se mi ho dom mo dow) (x / 86400) = true)) a w := by
 simp [Tryz.f202, blockAt] at hc
 subst hc
 refine loop_gen hlast (fun x => hasBit mo (Cal.M (x / 86400)) = true) (fun x => Cal.dayFits (fOf se mi ho dom mo dow) (x / 86400)) (fun x => 86400 * (x / 86400)) (fun x => 86400 * (x / 86400) + 86400) (fun y => Cal.D (y / 86400) == 1)
  (fun added x a w h0 h1 hi => rg18 h0 h1 hi _ (by kernel_rfl)) (fun added x a w hi => rg19 hi _ (by kernel_rfl)) (fun x a w hi => rg20 hi _ (by kernel_rfl)) (fun x a w h0 h1 hi => rg21 h0 h1 hi _ (by kernel_rfl)) ?_ ?_ ?_ ?_ ?_ ?_ ?_ h
 ·intro x a w h0 h1 hE hy hi
  have hml := ms_least (n := x / 86400) (date_in x h0 h1).1
  have hdv := (Cal.date_valid (x / 86400)).2.2.1
  have hyb := year_below hy (by omega)
  refine seq_of (rg22 (by omega) (by omega) hi _ (by kernel_rfl)) fun a1 w1 hi1 => ?_
  refine wp_seq (seq_of (rg23 (by omega) (by omega) hi1 _ (by kernel_rfl)) fun a2 w2 hi2 => ?_)
  obtain ⟨hi2, ht2⟩ := hi2
  rw [show (86400 * (x / 86400) + 86400) % 86400 / 3600 = 0 by omega] at ht2
  refine wp_cond_false ht2 (wp_skip ?_)
  exact seq_of (rg27 (by omega) (by omega) hi2 _ (by kernel_rfl)) fun a2 w2 hi2 => tail_end hi2
 ·intro x hal hE
  have h := hal.day hE
  show 86400 * (x / 86400) = x
  omega
 ·intro x h0 h1 hE
  show x < 86400 * (x / 86400) + 86400
  omega
 ·intro x h0 hy
  have hyb := year_below hy (by omega)
  show 86400 * (x / 86400) + 86400 ≤ 900000000000
  omega
 ·intro x h0 _ hE
  have := Cal.quiet_day (f := fOf se mi ho dom mo dow) hE
  rw [show 86400 * (x / 86400 + 1) = 86400 * (x / 86400) + 86400 by omega] at this
  exact this
 ·intro x h0 hC hE
  exact Cal.Al.next_day (by rw [show (86400 * (x / 86400) + 86400) / 86400 - 1 = x / 86400 by omega]; exact hC) (by omega)
 ·intro x h0 hC hE hw
  have e : (86400 * (x / 86400) + 86400) / 86400 = x / 86400 + 1 := by omega
  simp only [e] at hw ⊢
  have := next_in hw
  exact ⟨by rw [this.2]; exact hC, this.1⟩
theorem loop3 (hlast : last ≤ 27390) (c : Code) (hc : blockAt 4 (Tryz.f202.body.getD .skip) = some c) {a : Act} {w : World}
  (h : ∃ (added : Bool) (x : Int), Inv w0 b u o t3 t4 lv se mi ho dom mo dow loc last added x a w ∧ Pl (fOf se mi ho dom mo dow) first last added x ∧ x0 ≤ x ∧ Cal.Y (x / 86400) ≤ last ∧ (hasBit mo (Cal.M (x / 86400)) = true ∧ Cal.dayFits (fOf se mi ho dom mo dow) (x / 86400) = true)) :
  c.wp Tryz.prog (LoopQ w0 b u o t3 t4 lv se mi ho dom mo dow loc first last x0 (fun x => (hasBit mo (Cal.M (x / 86400)) = true ∧ Cal.dayFits (fOf se mi ho dom mo dow) (x / 86400) = true) ∧ hasBit ho (x % 86400 / 3600) = true)) a w := by
 simp [Tryz.f202, blockAt] at hc
 subst hc
 refine loop_gen hlast (fun x => hasBit mo (Cal.M (x / 86400)) = true ∧ Cal.dayFits (fOf se mi ho dom mo dow) (x / 86400) = true) (fun x => hasBit ho (x % 86400 / 3600)) (fun x => 86400 * (x / 86400) + x % 86400 / 3600 * 3600) (fun x => 86400 * (x / 86400) + x % 86400 / 3600 * 3600 + 3600) (fun y => y % 86400 / 3600 == 0)
  (fun added x a w h0 h1 hi => rg28 h0 h1 hi _ (by kernel_rfl)) (fun added x a w hi => rg29 hi _ (by kernel_rfl)) (fun x a w hi => rg30 hi _ (by kernel_rfl)) (fun x a w h0 h1 hi => rg31 h0 h1 hi _ (by kernel_rfl)) ?_ ?_ ?_ ?_ ?_ ?_ ?_ h
 ·intro x a w h0 h1 hE hy hi
  have hml := ms_least (n := x / 86400) (date_in x h0 h1).1
  have hdv := (Cal.date_valid (x / 86400)).2.2.1
  have hyb := year_below hy (by omega)
  refine seq_of (rg32 (by omega) (by omega) hi _ (by kernel_rfl)) fun a1 w1 hi1 => ?_
  exact seq_of (rg33 (by omega) (by omega) hi1 _ (by kernel_rfl)) fun a2 w2 hi2 => tail_end hi2
 ·intro x hal hE
  have h := hal.hour (f := fOf se mi ho dom mo dow) hE
  show 86400 * (x / 86400) + x % 86400 / 3600 * 3600 = x
  omega
 ·intro x h0 h1 hE
  show x < 86400 * (x / 86400) + x % 86400 / 3600 * 3600 + 3600
  omega
 ·intro x h0 hy
  have hyb := year_below hy (by omega)
  show 86400 * (x / 86400) + x % 86400 / 3600 * 3600 + 3600 ≤ 900000000000
  omega
 ·intro x h0 _ hE
  have := Cal.quiet_hour (f := fOf se mi ho dom mo dow) (t := x) hE
  rw [show 3600 * (x / 3600 + 1) = 86400 * (x / 86400) + x % 86400 / 3600 * 3600 + 3600 by omega] at this
  exact this
 ·intro x h0 hC hE
  have e : (86400 * (x / 86400) + x % 86400 / 3600 * 3600 + 3600 - 3600) / 86400 = x / 86400 := by omega
  exact Cal.Al.next_hour (by rw [e]; exact hC.1) (by rw [e]; exact hC.2) (by omega)
 ·intro x h0 hC hE hw
  have hw2 : (86400 * (x / 86400) + x % 86400 / 3600 * 3600 + 3600) % 86400 / 3600 ≠ 0 := by simpa using hw
  have e : (86400 * (x / 86400) + x % 86400 / 3600 * 3600 + 3600) / 86400 = x / 86400 := by omega
  simp only [e]
  exact ⟨hC, trivial⟩
theorem loop4 (hlast : last ≤ 27390) (c : Code) (hc : blockAt 6 (Tryz.f202.body.getD .skip) = some c) {a : Act} {w : World}
  (h : ∃ (added : Bool) (x : Int), Inv w0 b u o t3 t4 lv se mi ho dom mo dow loc last added x a w ∧ Pl (fOf se mi ho dom mo dow) first last added x ∧ x0 ≤ x ∧ Cal.Y (x / 86400) ≤ last ∧ ((hasBit mo (Cal.M (x / 86400)) = true ∧ Cal.dayFits (fOf se mi ho dom mo dow) (x / 86400) = true) ∧ hasBit ho (x % 86400 / 3600) = true)) :
  c.wp Tryz.prog (LoopQ w0 b u o t3 t4 lv se mi ho dom mo dow loc first last x0 (fun x => ((hasBit mo (Cal.M (x / 86400)) = true ∧ Cal.dayFits (fOf se mi ho dom mo dow) (x / 86400) = true) ∧ hasBit ho (x % 86400 / 3600) = true) ∧ hasBit mi (x % 3600 / 60) = true)) a w := by
 simp [Tryz.f202, blockAt] at hc
 subst hc
 refine loop_gen hlast (fun x => (hasBit mo (Cal.M (x / 86400)) = true ∧ Cal.dayFits (fOf se mi ho dom mo dow) (x / 86400) = true) ∧ hasBit ho (x % 86400 / 3600) = true) (fun x => hasBit mi (x % 3600 / 60)) (fun x => x - x % 60) (fun x => x - x % 60 + 60) (fun y => y % 3600 / 60 == 0)
  (fun added x a w h0 h1 hi => rg34 h0 h1 hi _ (by kernel_rfl)) (fun added x a w hi => rg35 hi _ (by kernel_rfl)) (fun x a w hi => rg36 hi _ (by kernel_rfl)) (fun x a w h0 h1 hi => rg37 h0 h1 hi _ (by kernel_rfl)) ?_ ?_ ?_ ?_ ?_ ?_ ?_ h
 ·intro x a w h0 h1 hE hy hi
  have hml := ms_least (n := x / 86400) (date_in x h0 h1).1
  have hdv := (Cal.date_valid (x / 86400)).2.2.1
  have hyb := year_below hy (by omega)
  refine seq_of (rg38 (by omega) (by omega) hi _ (by kernel_rfl)) fun a1 w1 hi1 => ?_
  exact seq_of (rg39 (by omega) (by omega) hi1 _ (by kernel_rfl)) fun a2 w2 hi2 => tail_end hi2
 ·intro x hal hE
  have h := hal.minute (f := fOf se mi ho dom mo dow) hE
  show x - x % 60 = x
  omega
 ·intro x h0 h1 hE
  show x < x - x % 60 + 60
  omega
 ·intro x h0 hy
  have hyb := year_below hy (by omega)
  show x - x % 60 + 60 ≤ 900000000000
  omega
 ·intro x h0 _ hE
  have := Cal.quiet_minute (f := fOf se mi ho dom mo dow) (t := x) hE
  rw [show 60 * (x / 60 + 1) = x - x % 60 + 60 by omega] at this
  exact this
 ·intro x h0 hC hE
  have e : (x - x % 60 + 60 - 60) / 86400 = x / 86400 := by omega
  have e2 : (x - x % 60 + 60 - 60) % 86400 / 3600 = x % 86400 / 3600 := by omega
  exact Cal.Al.next_minute (by rw [e]; exact hC.1.1) (by rw [e]; exact hC.1.2) (by rw [e2]; exact hC.2) (by omega)
 ·intro x h0 hC hE hw
  have hw2 : (x - x % 60 + 60) % 3600 / 60 ≠ 0 := by simpa using hw
  have e : (x - x % 60 + 60) / 86400 = x / 86400 := by omega
  have e2 : (x - x % 60 + 60) % 86400 / 3600 = x % 86400 / 3600 := by omega
  simp only [e, e2]
  exact ⟨hC, trivial⟩
theorem loop5 (hlast : last ≤ 27390) (c : Code) (hc : blockAt 8 (Tryz.f202.body.getD .skip) = some c) {a : Act} {w : World}
  (h : ∃ (added : Bool) (x : Int), Inv w0 b u o t3 t4 lv se mi ho dom mo dow loc last added x a w ∧ Pl (fOf se mi ho dom mo dow) first last added x ∧ x0 ≤ x ∧ Cal.Y (x / 86400) ≤ last ∧ (((hasBit mo (Cal.M (x / 86400)) = true ∧ Cal.dayFits (fOf se mi ho dom mo dow) (x / 86400) = true) ∧ hasBit ho (x % 86400 / 3600) = true) ∧ hasBit mi (x % 3600 / 60) = true)) :
  c.wp Tryz.prog (LoopQ w0 b u o t3 t4 lv se mi ho dom mo dow loc first last x0 (fun x => (((hasBit mo (Cal.M (x / 86400)) = true ∧ Cal.dayFits (fOf se mi ho dom mo dow) (x / 86400) = true) ∧ hasBit ho (x % 86400 / 3600) = true) ∧ hasBit mi (x % 3600 / 60) = true) ∧ hasBit se (x % 60) = true)) a w := by
 simp [Tryz.f202, blockAt] at hc
 subst hc
 refine loop_gen hlast (fun x => ((hasBit mo (Cal.M (x / 86400)) = true ∧ Cal.dayFits (fOf se mi ho dom mo dow) (x / 86400) = true) ∧ hasBit ho (x % 86400 / 3600) = true) ∧ hasBit mi (x % 3600 / 60) = true) (fun x => hasBit se (x % 60)) (fun x => x) (fun x => x + 1) (fun y => y % 60 == 0)
  (fun added x a w h0 h1 hi => rg40 h0 h1 hi _ (by kernel_rfl)) (fun added x a w hi => rg41 hi _ (by kernel_rfl)) (fun x a w hi => rg42 hi _ (by kernel_rfl)) (fun x a w h0 h1 hi => rg43 h0 h1 hi _ (by kernel_rfl)) ?_ ?_ ?_ ?_ ?_ ?_ ?_ h
 ·intro x a w h0 h1 hE hy hi
  have hyb := year_below hy (by omega)
  refine seq_of (rg44 (by omega) (by omega) hi _ (by kernel_rfl)) fun a1 w1 hi1 => ?_
  exact seq_of (rg45 (by omega) (by omega) hi1 _ (by kernel_rfl)) fun a2 w2 hi2 => tail_end hi2
 ·intro x hal hE
  rfl
 ·intro x h0 h1 hE
  show x < x + 1
  omega
 ·intro x h0 hy
  have hyb := year_below hy (by omega)
  show x + 1 ≤ 900000000000
  omega
 ·intro x h0 _ hE
  exact Cal.quiet_second (f := fOf se mi ho dom mo dow) (t := x) hE
 ·intro x h0 hC hE
  have e : x + 1 - 1 = x := by omega
  exact Cal.Al.next_second (by rw [e]; exact hC.1.1.1) (by rw [e]; exact hC.1.1.2) (by rw [e]; exact hC.1.2) (by rw [e]; exact hC.2)
 ·intro x h0 hC hE hw
  have hw2 : (x + 1) % 60 ≠ 0 := by simpa using hw
  have e : (x + 1) / 86400 = x / 86400 := by omega
  have e2 : (x + 1) % 86400 / 3600 = x % 86400 / 3600 := by omega
  have e3 : (x + 1) % 3600 / 60 = x % 3600 / 60 := by omega
  simp only [e, e2, e3]
  exact ⟨hC, trivial⟩
end
end Go.Proofs.YtcjdideliifkhaaGreatDoor
