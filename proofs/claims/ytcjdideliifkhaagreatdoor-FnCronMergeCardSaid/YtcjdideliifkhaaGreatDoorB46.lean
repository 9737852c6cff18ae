/- FnCronMerge, as the given card states it: of up to five cron texts that are parsed, asked for their first activation after an instant, the scheduler's order tells, as often as wanted (up to 30 times), the merged activations of all of them in turn, and at each time a job that is activated then.
   Conditions: those of the given statement and no others (any texts, instant and number that the row lets in, any world and any order of evaluation that it lets in). The texts B01 to B45 hold the walks of the program's and the spec's functions and of the law, this one the row and the card. -/
import Derived.LaidMore
import Derived.LaidOnce
import Derived.Lay
import Derived.SevenTiedAt
import Derived.SliceStrings
import Derived.Stop.Joined
import Derived.Test.YtcjdideliifkhaaGreatDoorCards
import Derived.Test.YtcjdideliifkhaaGreatDoorTie
import Derived.Test.YtcjdideliifkhaaGreatDoorB45
set_option maxRecDepth 100000
set_option maxHeartbeats 16000000
namespace Go.Proofs.YtcjdideliifkhaaGreatDoor
open Go.ChangeShapes Go.WideShapes Go.ChangeAt Go.RowKit Go.Maps Go.Proofs.YtcjdideliifkhaaGreatDoorW.PrintWords Go.Proofs.YtcjdideliifkhaaGreatDoorW.PrintLast Go.Proofs.YtcjdideliifkhaaGreatDoorW.PrintMore PFnCronTextAfterAnywhere
set_option linter.unusedVariables false
set_option linter.unusedSimpArgs false
theorem ownM : ownKnob Tryz.prog.godebug = none := by kernel_rfl
theorem laidOutM : laidOutB Tryz.prog = true := by kernel_rfl
theorem strs_read {H : Type} {enc : TypeId × Value → H} {W : World} {t e fuel : Nat} {v : Value} {y : DataW H × List MemPlace} (ht : Tryz.prog.underlying t = some (.slice e)) (he : Tryz.prog.underlying e = some .string) (hc : Tryz.prog.cellsOf e = 1)
  (h : DataW.trod enc Tryz.prog W 0 (fun _ => true) true fuel t [v] = some y) : ∃ l : List ByteArray, l.length ≤ maxLen ∧ (∀ s ∈ l, s.size ≤ maxLen) ∧ Strs W v l := by
 rcases open_strings ht he hc h with ⟨h1, _⟩ | ⟨a, len, cap, ss, h1, _, h2, h3, h4, _, h5, h6⟩
 ·simp at h1
  exact ⟨[], Nat.zero_le _, fun s hs => (by cases hs), none, 0, h1, fun i hi => absurd hi (Nat.not_lt_zero _)⟩
 ·simp at h1
  simp only [if_true] at h4
  have hl : (ss.take len).length = len := by rw [List.length_take]; omega
  refine ⟨ss.take len, by omega, fun s hs => h6 s (List.mem_of_mem_take hs), some a, cap, by rw [hl]; exact h1, fun i hi => ⟨a, rfl, ?_⟩⟩
  rw [hl] at hi
  rw [h5 i (by omega), List.getElem_take, List.getD_eq_getElem?_getD, List.getElem?_eq_getElem (by omega), Option.getD_some]
theorem liftedM (os : Os) (started : os.Started) (H : Type) (enc : TypeId × Value → H) :
  ReturnsInHanded {} Tryz.checked os 4 .any (fun w args => (Rows.fnCronMergeSpec.pre enc Tryz.prog Tryz.f4 Rows.fnCronMergeRow.domain false w args ∧ laidMetH Tryz.prog Rows.fnCronMergeRow.laid w) ∧ sizedMet enc Tryz.prog Tryz.f4 (OpenSpec.ofChange Rows.fnCronMergeSpec) false w args)
   (Rows.fnCronMergeSpec.post enc Tryz.prog Tryz.f4 false true false false) := by
 refine returnsInHanded_of_change_and (C := Tryz.checked) (X := fun w _ => laidMetH Tryz.prog Rows.fnCronMergeRow.laid w) (fun _ _ _ hh h => h.of_heap hh) ownM started (by kernel_rfl) Tryz.func4
  (ChangeSpec.witness_shaped (enc := enc) (C := Tryz.checked) (os := os) (X := fun w _ => laidMetH Tryz.prog Rows.fnCronMergeRow.laid w) false (World.laidAll Tryz.prog os Rows.fnCronMergeRow.laid) #[.slice none 0 0, .agg #[.int .i64 0, .int .i64 0], .int .i64 0] 8 (World.laidAll_os _ _ _)
   (World.shaped_of_ZipB (by kernel_rfl) (by kernel_rfl)) (by kernel_rfl) (by kernel_rfl) (by kernel_rfl)
   (by rw [MakeChecks.laidMetH_plain _ _ _ (by kernel_rfl)]; exact laidMet_laidAll _ (by kernel_rfl) (by kernel_rfl))) ?_
 intro W base args ds gs before hval0 hW hc _ hL _
 have hval : ∀ (j : Nat) t v, Tryz.f4.params[j]? = some t → args[j]? = some v → Value.okWide Tryz.prog W .any base t v := hval0
 have hW' := hW
 obtain ⟨p, q, hA0, hV, rfl, _, _⟩ := hW
 have hA : DataW.TrodAll enc Tryz.prog W 0 (fun _ => true) true Tryz.f4.params.toList args.toList ds p := hA0
 rw [Tryz.params4] at hA hval
 obtain ⟨v0, vs0, d0, ds0, p0, q0, hargs, rfl, rfl, h0, r0⟩ := trodAll_cons hA
 obtain ⟨v1, vs1, d1, ds1, p1, q1, rfl, rfl, rfl, h1, r1⟩ := trodAll_cons r0
 obtain ⟨v2, vs2, d2, ds2, p2, q2, rfl, rfl, rfl, h2, r2⟩ := trodAll_cons r1
 obtain ⟨rfl, rfl, rfl⟩ := trodAll_nil r2
 obtain rfl : args = #[v0, v1, v2] := by cases args; simp_all
 obtain ⟨rfl, rfl⟩ := trodVars_none hV
 obtain ⟨a2, rfl, rfl, rfl, w2⟩ := open_int Tryz.underlying3 (hval 2 3 v2 rfl rfl) h2
 have k0 := h0
 have k1 := h1
 have lt0 : ∀ x ∈ p0, x.block < W.heap.size := by obtain ⟨m, hm⟩ := k0; exact DataW.trod_lt m _ _ _ hm
 have lt1 : ∀ x ∈ p1, x.block < W.heap.size := by obtain ⟨m, hm⟩ := k1; exact DataW.trod_lt m _ _ _ hm
 obtain ⟨c0, c1, y0, y1, n, rfl, _, _, e0, e1⟩ := Go.Joins.open_agg2 Tryz.underlying23 (by kernel_rfl) (by kernel_rfl) (hval 1 23 v1 rfl rfl) h1
 obtain ⟨s, g0, g1, ws⟩ := DataW.trod_int Tryz.underlying2 e0
 obtain ⟨ns, g2, g3, wn⟩ := DataW.trod_int Tryz.underlying3 e1
 simp only [List.cons.injEq, and_true] at g0 g2
 subst g0
 subst g2
 obtain ⟨l, hl, hz, hs⟩ : ∃ l : List ByteArray, l.length ≤ maxLen ∧ (∀ s ∈ l, s.size ≤ maxLen) ∧ Strs W v0 l := by
  have hf := hval 0 50 v0 rfl rfl
  obtain ⟨m, hm⟩ := h0
  obtain ⟨A, n, c, rfl⟩ : ∃ A n c, v0 = .slice A n c := okWide_slice (e := 9) (show Tryz.prog.underlying 50 = some (.slice 9) by kernel_rfl) hf
  exact strs_read (t := 50) (e := 9) (by kernel_rfl) (by kernel_rfl) (by kernel_rfl) hm
 clear hA0 hval0
 refine (lawM_c v0 l hl hz s ns a2 W hs).mono fun e W' ⟨he, bel⟩ => ?_
 subst he
 exact ⟨_, rfl, _, _, _, [], _, [], hW', trodAll_mk1 (shut_bool Tryz.underlying4 _), trodAll_cons_mk (Below.trod laidOutM (by kernel_rfl) (of_decide_eq_true (by kernel_rfl)) k0 bel lt0) (trodAll_cons_mk (Below.trod laidOutM (by kernel_rfl) (of_decide_eq_true (by kernel_rfl)) k1 bel lt1) (trodAll_cons_mk (shut_int Tryz.underlying3 w2) trodAll_mk0)), rfl, bel.frame _, fun h => by cases h⟩
theorem row_holdsM : Rows.FnCronMergeSaid :=
 OpenClaim.holds_of_wide 4 Tryz.f4 rfl rfl rfl rfl rfl rfl rfl ⟨rfl, rfl, rfl, rfl, rfl⟩ rfl rfl rfl rfl rfl (by kernel_rfl) Tryz.func4 (by kernel_rfl)
  (of_decide_eq_true (by kernel_rfl)) (by unfold Func.isWrapper; first | (rw [if_pos (by decide +kernel)]; kernel_rfl) | (rw [if_neg (by decide +kernel)]; exact ⟨rfl, rfl⟩))
  (fun os started H enc _ => liftedM os started H enc)
theorem card_holdsM : Rows.FnCronMergeCardSaid :=
 Claim7.holds_tied_plain_at .later [] [.data, .data, .data, .data, .sentinel, .sentinel, .sentinel, .sentinel, .pinned] true (true, "6a2fe40854b69a7010194049a294e93be7931b6554b3a085ba4041611ed40924") true row_holdsM (fun _ h => by cases h) (by kernel_rfl) (fun _ h => by cases h) fnCronMerge_row_tie rfl ⟨rfl, rfl⟩ (by kernel_rfl) rfl
  (fun f fn hf hfn => by
   obtain rfl : f = 4 := Option.some.inj ((show Tryz.prog.funcNamed "pub-timebook/laws.FnCronMerge" = some 4 by kernel_rfl).symm.trans hf) |>.symm
   obtain rfl : fn = Tryz.f4 := (Option.some.inj (Tryz.func4.symm.trans hfn)).symm
   exact ⟨by kernel_rfl, fun j t ht => by
    rw [Tryz.params4] at ht
    have hm : t ∈ [50, 23, 3] := by simpa using Array.mem_of_getElem? ht
    have hall : ([50, 23, 3].all fun u => !Tryz.prog.wantsStandIn u) = true := by kernel_rfl
    exact (show Tryz.prog.wantsStandIn t = false by simpa using List.all_eq_true.1 hall t hm)⟩)
  (by kernel_rfl)
#print axioms card_holdsM
end Go.Proofs.YtcjdideliifkhaaGreatDoor
