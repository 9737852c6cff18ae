import Derived.Test.YtcjdideliifkhaaGreatDoorB11
set_option maxRecDepth 100000
set_option maxHeartbeats 16000000
namespace Go.Proofs.YtcjdideliifkhaaGreatDoor
open Go.RowKit
set_option linter.unusedVariables false
set_option linter.unusedSimpArgs false
def opsAt (id : Nat) : Code → Option (Array Oper)
 | .region i o _ => if i = id then some o else none
 | .seq a b => match opsAt id a with | some o => some o | none => opsAt id b
 | .cond _ a b => match opsAt id a with | some o => some o | none => opsAt id b
 | .block _ c => opsAt id c
 | .loop c => opsAt id c
 | .scope c => opsAt id c
 | _ => none
theorem bit_not (b k : Int) : (bits .and .u64 (IntKind.u64.wrap (2 ^ k.toNat)) b == 0) = !hasBit b k := by
 have h := bits_nonneg (IntKind.u64.wrap (2 ^ k.toNat)) b
 unfold hasBit bitOf
 by_cases c : bits .and .u64 (IntKind.u64.wrap (2 ^ k.toNat)) b = 0
 ·rw [c, decide_eq_false (by omega)]; rfl
 ·rw [decide_eq_true (by omega)]; simpa using c
theorem dayStart_s (x : Int) (h0 : -62135596800 ≤ x) (h1 : x ≤ 900000000000) (w : World) (u : Nat) (hu : IsUTC w u) : Calls Tryz.prog 207 #[.int .i64 (Cal.Y (x / 86400)), .int .i64 (Cal.M (x / 86400)), .int .i64 (Cal.D (x / 86400)), .int .i64 0, .int .i64 0, .int .i64 0, .int .i64 0, .pointer (some ⟨u, 0, none⟩)] w fun r w' =>
  r = .returned (at_ (86400 * (x / 86400))) ∧ Below w.heap.size w w' := by
 have := hourStart_s x h0 h1 w 0 (by decide) (by decide) u hu
 rw [show 86400 * (x / 86400) + 0 * 3600 = 86400 * (x / 86400) by omega] at this
 exact this
theorem in_org {o : Nat} {lv : Value} (x : Int) (w : World) (h : Org w o lv) : Calls Tryz.prog 68 #[at_ x, .pointer (some ⟨o, 0, none⟩)] w fun r w' => r = .returned (tm 0 (x + 62135596800) lv) ∧ Below w.heap.size w w' := by
 rcases h with ⟨hu, rfl⟩ | ⟨h1, h2, rfl⟩
 ·exact in_utc 0 _ _ ⟨_, rfl⟩ (by decide) (by decide) o w hu
 ·exact in_zone 0 _ _ ⟨_, rfl⟩ (by decide) (by decide) o w h1 h2
section
variable {w0 : World} {b u o t3 t4 : Nat} {lv : Value} {se mi ho dom mo dow : Int} {loc : Option Addr} {last : Int}
theorem rg10 {added : Bool} {x : Int} (hxa : -62135596800 ≤ x) (hxb : x ≤ 900000000000) {a0 : Act} {w : World} (hi : Inv w0 b u o t3 t4 lv se mi ho dom mo dow loc last added x a0 w)
  (ops : Array Oper) (hops : opsAt 10 (Tryz.f202.body.getD .skip) = some ops) :
  (Code.region 10 ops false).wp Tryz.prog (Exit.then (fun a' w' => Inv w0 b u o t3 t4 lv se mi ho dom mo dow loc last added (x) a' w' ∧ a'.tmps.getD 42 undef = .bool (decide (last < Cal.Y (x / 86400)))) (fun _ _ _ => False)) a0 w := by
 obtain ⟨hf, hs3⟩ := hi
 simp [Tryz.f202, opsAt] at hops
 subst hops
 refine wp_line_fac 172 hf.sz 4 [(39, at_ x), (40, .int .i64 (Cal.Y (x / 86400))), (41, .int .i64 last), (42, .bool (decide (last < Cal.Y (x / 86400))))] [(3, .pointer (some ⟨t3, 0, none⟩)), (8, .int .i64 last)] ⟨hf.g3, hf.g8, trivial⟩ (by kernel_rfl) (fun w' => St w0 b u o t3 t4 lv se mi ho dom mo dow loc w' (x + 62135596800)) (fun _ _ h hb => h.goes hb) hs3 ?_ ?_
 ·and_intros
  all_goals first | intro hne a w hs he | exact trivial
  all_goals
   obtain ⟨zts, k0, k1, k2, f0, f1, f2⟩ := hs.t
   obtain ⟨zsp, c0, c1, c2, c3, c4, c5, c6⟩ := hs.spec
   obtain ⟨zrr, r0, r1, r2, q0, q1, q2⟩ := hs.r
   simp [Region.reads, Region.Told, Region.told1, Op.operands, Call.operands, List.lookup] at he ⊢
   have hb := Below.refl w.heap.size w
   go_simp
  ·refine (year_s x hxa hxb _).mono ?_
   rintro r w4 ⟨rfl, hb4⟩
   exact ⟨_, rfl, rfl, hb4⟩
 ·intro a w hs hA
  have hfr := hf.keep hA.size hA.defers (fun t ht => hA.old t (by simp; omega))
  exact ⟨⟨hfr, hs⟩, hA.told.2.2.2.1⟩
theorem rg12 {added : Bool} {x : Int} (hxa : -62135596800 ≤ x) (hxb : x ≤ 900000000000) {a0 : Act} {w : World} (hi : Inv w0 b u o t3 t4 lv se mi ho dom mo dow loc last added x a0 w)
  (ops : Array Oper) (hops : opsAt 12 (Tryz.f202.body.getD .skip) = some ops) :
  (Code.region 12 ops true).wp Tryz.prog (Exit.then (fun a' w' => Inv w0 b u o t3 t4 lv se mi ho dom mo dow loc last added (x) a' w' ∧ a'.tmps.getD 53 undef = .bool (!hasBit mo (Cal.M (x / 86400)))) (fun _ _ _ => False)) a0 w := by
 obtain ⟨hf, hs3⟩ := hi
 simp [Tryz.f202, opsAt] at hops
 subst hops
 have hm0 : 0 ≤ Cal.M (x / 86400) := by have := (Cal.date_valid (x / 86400)).1; omega
 have hm2 : Cal.M (x / 86400) ≤ 64 := by have := (Cal.date_valid (x / 86400)).2.1; omega
 have hm3 : IntKind.u64.wrap (Cal.M (x / 86400)) = Cal.M (x / 86400) := wraps_u64 _ (by omega) (by omega)
 refine wp_region_fac (by kernel_rfl) 172 hf.sz 10 [(44, at_ x), (45, .int .i64 (Cal.M (x / 86400))), (46, .int .u64 (Cal.M (x / 86400))), (47, .int .u64 (IntKind.u64.wrap (2 ^ (Cal.M (x / 86400)).toNat))), (48, .pointer (some ⟨b, 0, none⟩)), (49, .pointer (some ⟨b, 0, none⟩)), (50, .pointer (some ⟨b, 4, none⟩)), (51, .int .u64 mo), (52, .int .u64 (bits .and .u64 (IntKind.u64.wrap (2 ^ (Cal.M (x / 86400)).toNat)) mo)), (53, .bool (bits .and .u64 (IntKind.u64.wrap (2 ^ (Cal.M (x / 86400)).toNat)) mo == 0))] [(0, .pointer (some ⟨b, 0, none⟩)), (3, .pointer (some ⟨t3, 0, none⟩))] ⟨hf.g0, hf.g3, trivial⟩ (by kernel_rfl) (fun w' => St w0 b u o t3 t4 lv se mi ho dom mo dow loc w' (x + 62135596800)) (fun _ _ h hb => h.goes hb) hs3.drew ?_ ?_
 ·and_intros
  all_goals first | intro hne a w hs he | exact trivial
  all_goals
   obtain ⟨zts, k0, k1, k2, f0, f1, f2⟩ := hs.t
   obtain ⟨zsp, c0, c1, c2, c3, c4, c5, c6⟩ := hs.spec
   obtain ⟨zrr, r0, r1, r2, q0, q1, q2⟩ := hs.r
   simp [Region.reads, Region.Told, Region.told1, Op.operands, Call.operands, List.lookup] at he ⊢
   have hb := Below.refl w.heap.size w
   go_simp
  ·refine (month_s x hxa hxb _).mono ?_
   rintro r w4 ⟨rfl, hb4⟩
   exact ⟨_, rfl, rfl, hb4⟩
 ·intro a w hs hA
  have hfr := hf.keep hA.size hA.defers (fun t ht => hA.old t (by simp; omega))
  have hq := hA.told.2.2.2.2.2.2.2.2.2.1
  simp only [bit_not] at hq
  exact ⟨⟨hfr, hs⟩, hq⟩
theorem rg28 {added : Bool} {x : Int} (hxa : -62135596800 ≤ x) (hxb : x ≤ 900000000000) {a0 : Act} {w : World} (hi : Inv w0 b u o t3 t4 lv se mi ho dom mo dow loc last added x a0 w)
  (ops : Array Oper) (hops : opsAt 28 (Tryz.f202.body.getD .skip) = some ops) :
  (Code.region 28 ops true).wp Tryz.prog (Exit.then (fun a' w' => Inv w0 b u o t3 t4 lv se mi ho dom mo dow loc last added (x) a' w' ∧ a'.tmps.getD 113 undef = .bool (!hasBit ho (x % 86400 / 3600))) (fun _ _ _ => False)) a0 w := by
 obtain ⟨hf, hs3⟩ := hi
 simp [Tryz.f202, opsAt] at hops
 subst hops
 have hm0 : 0 ≤ x % 86400 / 3600 := by omega
 have hm2 : x % 86400 / 3600 ≤ 64 := by omega
 have hm3 : IntKind.u64.wrap (x % 86400 / 3600) = x % 86400 / 3600 := wraps_u64 _ (by omega) (by omega)
 refine wp_region_fac (by kernel_rfl) 172 hf.sz 10 [(104, at_ x), (105, .int .i64 (x % 86400 / 3600)), (106, .int .u64 (x % 86400 / 3600)), (107, .int .u64 (IntKind.u64.wrap (2 ^ (x % 86400 / 3600).toNat))), (108, .pointer (some ⟨b, 0, none⟩)), (109, .pointer (some ⟨b, 0, none⟩)), (110, .pointer (some ⟨b, 2, none⟩)), (111, .int .u64 ho), (112, .int .u64 (bits .and .u64 (IntKind.u64.wrap (2 ^ (x % 86400 / 3600).toNat)) ho)), (113, .bool (bits .and .u64 (IntKind.u64.wrap (2 ^ (x % 86400 / 3600).toNat)) ho == 0))] [(0, .pointer (some ⟨b, 0, none⟩)), (3, .pointer (some ⟨t3, 0, none⟩))] ⟨hf.g0, hf.g3, trivial⟩ (by kernel_rfl) (fun w' => St w0 b u o t3 t4 lv se mi ho dom mo dow loc w' (x + 62135596800)) (fun _ _ h hb => h.goes hb) hs3.drew ?_ ?_
 ·and_intros
  all_goals first | intro hne a w hs he | exact trivial
  all_goals
   obtain ⟨zts, k0, k1, k2, f0, f1, f2⟩ := hs.t
   obtain ⟨zsp, c0, c1, c2, c3, c4, c5, c6⟩ := hs.spec
   obtain ⟨zrr, r0, r1, r2, q0, q1, q2⟩ := hs.r
   simp [Region.reads, Region.Told, Region.told1, Op.operands, Call.operands, List.lookup] at he ⊢
   have hb := Below.refl w.heap.size w
   go_simp
  ·refine (hour_s x hxa hxb _).mono ?_
   rintro r w4 ⟨rfl, hb4⟩
   exact ⟨_, rfl, rfl, hb4⟩
 ·intro a w hs hA
  have hfr := hf.keep hA.size hA.defers (fun t ht => hA.old t (by simp; omega))
  have hq := hA.told.2.2.2.2.2.2.2.2.2.1
  simp only [bit_not] at hq
  exact ⟨⟨hfr, hs⟩, hq⟩
theorem rg34 {added : Bool} {x : Int} (hxa : -62135596800 ≤ x) (hxb : x ≤ 900000000000) {a0 : Act} {w : World} (hi : Inv w0 b u o t3 t4 lv se mi ho dom mo dow loc last added x a0 w)
  (ops : Array Oper) (hops : opsAt 34 (Tryz.f202.body.getD .skip) = some ops) :
  (Code.region 34 ops true).wp Tryz.prog (Exit.then (fun a' w' => Inv w0 b u o t3 t4 lv se mi ho dom mo dow loc last added (x) a' w' ∧ a'.tmps.getD 140 undef = .bool (!hasBit mi (x % 3600 / 60))) (fun _ _ _ => False)) a0 w := by
 obtain ⟨hf, hs3⟩ := hi
 simp [Tryz.f202, opsAt] at hops
 subst hops
 have hm0 : 0 ≤ x % 3600 / 60 := by omega
 have hm2 : x % 3600 / 60 ≤ 64 := by omega
 have hm3 : IntKind.u64.wrap (x % 3600 / 60) = x % 3600 / 60 := wraps_u64 _ (by omega) (by omega)
 refine wp_region_fac (by kernel_rfl) 172 hf.sz 10 [(131, at_ x), (132, .int .i64 (x % 3600 / 60)), (133, .int .u64 (x % 3600 / 60)), (134, .int .u64 (IntKind.u64.wrap (2 ^ (x % 3600 / 60).toNat))), (135, .pointer (some ⟨b, 0, none⟩)), (136, .pointer (some ⟨b, 0, none⟩)), (137, .pointer (some ⟨b, 1, none⟩)), (138, .int .u64 mi), (139, .int .u64 (bits .and .u64 (IntKind.u64.wrap (2 ^ (x % 3600 / 60).toNat)) mi)), (140, .bool (bits .and .u64 (IntKind.u64.wrap (2 ^ (x % 3600 / 60).toNat)) mi == 0))] [(0, .pointer (some ⟨b, 0, none⟩)), (3, .pointer (some ⟨t3, 0, none⟩))] ⟨hf.g0, hf.g3, trivial⟩ (by kernel_rfl) (fun w' => St w0 b u o t3 t4 lv se mi ho dom mo dow loc w' (x + 62135596800)) (fun _ _ h hb => h.goes hb) hs3.drew ?_ ?_
 ·and_intros
  all_goals first | intro hne a w hs he | exact trivial
  all_goals
   obtain ⟨zts, k0, k1, k2, f0, f1, f2⟩ := hs.t
   obtain ⟨zsp, c0, c1, c2, c3, c4, c5, c6⟩ := hs.spec
   obtain ⟨zrr, r0, r1, r2, q0, q1, q2⟩ := hs.r
   simp [Region.reads, Region.Told, Region.told1, Op.operands, Call.operands, List.lookup] at he ⊢
   have hb := Below.refl w.heap.size w
   go_simp
  ·refine (minute_s x hxa hxb _).mono ?_
   rintro r w4 ⟨rfl, hb4⟩
   exact ⟨_, rfl, rfl, hb4⟩
 ·intro a w hs hA
  have hfr := hf.keep hA.size hA.defers (fun t ht => hA.old t (by simp; omega))
  have hq := hA.told.2.2.2.2.2.2.2.2.2.1
  simp only [bit_not] at hq
  exact ⟨⟨hfr, hs⟩, hq⟩
theorem rg40 {added : Bool} {x : Int} (hxa : -62135596800 ≤ x) (hxb : x ≤ 900000000000) {a0 : Act} {w : World} (hi : Inv w0 b u o t3 t4 lv se mi ho dom mo dow loc last added x a0 w)
  (ops : Array Oper) (hops : opsAt 40 (Tryz.f202.body.getD .skip) = some ops) :
  (Code.region 40 ops true).wp Tryz.prog (Exit.then (fun a' w' => Inv w0 b u o t3 t4 lv se mi ho dom mo dow loc last added (x) a' w' ∧ a'.tmps.getD 159 undef = .bool (!hasBit se (x % 60))) (fun _ _ _ => False)) a0 w := by
 obtain ⟨hf, hs3⟩ := hi
 simp [Tryz.f202, opsAt] at hops
 subst hops
 have hm0 : 0 ≤ x % 60 := by omega
 have hm2 : x % 60 ≤ 64 := by omega
 have hm3 : IntKind.u64.wrap (x % 60) = x % 60 := wraps_u64 _ (by omega) (by omega)
 refine wp_region_fac (by kernel_rfl) 172 hf.sz 10 [(150, at_ x), (151, .int .i64 (x % 60)), (152, .int .u64 (x % 60)), (153, .int .u64 (IntKind.u64.wrap (2 ^ (x % 60).toNat))), (154, .pointer (some ⟨b, 0, none⟩)), (155, .pointer (some ⟨b, 0, none⟩)), (156, .pointer (some ⟨b, 0, none⟩)), (157, .int .u64 se), (158, .int .u64 (bits .and .u64 (IntKind.u64.wrap (2 ^ (x % 60).toNat)) se)), (159, .bool (bits .and .u64 (IntKind.u64.wrap (2 ^ (x % 60).toNat)) se == 0))] [(0, .pointer (some ⟨b, 0, none⟩)), (3, .pointer (some ⟨t3, 0, none⟩))] ⟨hf.g0, hf.g3, trivial⟩ (by kernel_rfl) (fun w' => St w0 b u o t3 t4 lv se mi ho dom mo dow loc w' (x + 62135596800)) (fun _ _ h hb => h.goes hb) hs3.drew ?_ ?_
 ·and_intros
  all_goals first | intro hne a w hs he | exact trivial
  all_goals
   obtain ⟨zts, k0, k1, k2, f0, f1, f2⟩ := hs.t
   obtain ⟨zsp, c0, c1, c2, c3, c4, c5, c6⟩ := hs.spec
   obtain ⟨zrr, r0, r1, r2, q0, q1, q2⟩ := hs.r
   simp [Region.reads, Region.Told, Region.told1, Op.operands, Call.operands, List.lookup] at he ⊢
   have hb := Below.refl w.heap.size w
   go_simp
  ·refine (second_s x hxa hxb _).mono ?_
   rintro r w4 ⟨rfl, hb4⟩
   exact ⟨_, rfl, rfl, hb4⟩
 ·intro a w hs hA
  have hfr := hf.keep hA.size hA.defers (fun t ht => hA.old t (by simp; omega))
  have hq := hA.told.2.2.2.2.2.2.2.2.2.1
  simp only [bit_not] at hq
  exact ⟨⟨hfr, hs⟩, hq⟩
theorem rg18 {added : Bool} {x : Int} (hxa : -62135596800 ≤ x) (hxb : x ≤ 900000000000) {a0 : Act} {w : World} (hi : Inv w0 b u o t3 t4 lv se mi ho dom mo dow loc last added x a0 w)
  (ops : Array Oper) (hops : opsAt 18 (Tryz.f202.body.getD .skip) = some ops) :
  (Code.region 18 ops false).wp Tryz.prog (Exit.then (fun a' w' => Inv w0 b u o t3 t4 lv se mi ho dom mo dow loc last added (x) a' w' ∧ a'.tmps.getD 70 undef = .bool (!(Cal.dayFits (fOf se mi ho dom mo dow) (x / 86400)))) (fun _ _ _ => False)) a0 w := by
 obtain ⟨hf, hs3⟩ := hi
 simp [Tryz.f202, opsAt] at hops
 subst hops
 refine wp_line_fac 172 hf.sz 4 [(67, .pointer (some ⟨b, 0, none⟩)), (68, at_ x), (69, .bool (Cal.dayFits (fOf se mi ho dom mo dow) (x / 86400))), (70, .bool (!(Cal.dayFits (fOf se mi ho dom mo dow) (x / 86400))))] [(0, .pointer (some ⟨b, 0, none⟩)), (3, .pointer (some ⟨t3, 0, none⟩))] ⟨hf.g0, hf.g3, trivial⟩ (by kernel_rfl) (fun w' => St w0 b u o t3 t4 lv se mi ho dom mo dow loc w' (x + 62135596800)) (fun _ _ h hb => h.goes hb) hs3 ?_ ?_
 ·and_intros
  all_goals first | intro hne a w hs he | exact trivial
  all_goals
   obtain ⟨zts, k0, k1, k2, f0, f1, f2⟩ := hs.t
   obtain ⟨zsp, c0, c1, c2, c3, c4, c5, c6⟩ := hs.spec
   obtain ⟨zrr, r0, r1, r2, q0, q1, q2⟩ := hs.r
   simp [Region.reads, Region.Told, Region.told1, Op.operands, Call.operands, List.lookup] at he ⊢
   have hb := Below.refl w.heap.size w
   go_simp
  ·refine (dayMatches_s x hxa hxb _ b se mi ho dom mo dow loc hs.spec).mono ?_
   rintro r w4 ⟨rfl, hb4⟩
   exact ⟨_, rfl, rfl, hb4⟩
 ·intro a w hs hA
  have hfr := hf.keep hA.size hA.defers (fun t ht => hA.old t (by simp; omega))
  exact ⟨⟨hfr, hs⟩, hA.told.2.2.2.1⟩
theorem rg13 {added : Bool} {x : Int}  {a0 : Act} {w : World} (hi : Inv w0 b u o t3 t4 lv se mi ho dom mo dow loc last added x a0 w)
  (ops : Array Oper) (hops : opsAt 13 (Tryz.f202.body.getD .skip) = some ops) :
  (Code.region 13 ops false).wp Tryz.prog (Exit.then (fun a' w' => Inv w0 b u o t3 t4 lv se mi ho dom mo dow loc last added (x) a' w' ∧ a'.tmps.getD 55 undef = .bool (!added)) (fun _ _ _ => False)) a0 w := by
 obtain ⟨hf, hs3⟩ := hi
 simp [Tryz.f202, opsAt] at hops
 subst hops
 refine wp_line_fac 172 hf.sz 2 [(54, .bool added), (55, .bool (!added))] [(7, .bool added)] ⟨hf.g7, trivial⟩ (by kernel_rfl) (fun w' => St w0 b u o t3 t4 lv se mi ho dom mo dow loc w' (x + 62135596800)) (fun _ _ h hb => h.goes hb) hs3 ?_ ?_
 ·and_intros
  all_goals first | intro hne a w hs he | exact trivial
  all_goals
   simp [Region.reads, Region.Told, Region.told1, Op.operands, Call.operands, List.lookup] at he ⊢
   have hb := Below.refl w.heap.size w
   go_simp
 ·intro a w hs hA
  have hfr := hf.keep hA.size hA.defers (fun t ht => hA.old t (by simp; omega))
  exact ⟨⟨hfr, hs⟩, hA.told.2.1⟩
theorem rg19 {added : Bool} {x : Int}  {a0 : Act} {w : World} (hi : Inv w0 b u o t3 t4 lv se mi ho dom mo dow loc last added x a0 w)
  (ops : Array Oper) (hops : opsAt 19 (Tryz.f202.body.getD .skip) = some ops) :
  (Code.region 19 ops false).wp Tryz.prog (Exit.then (fun a' w' => Inv w0 b u o t3 t4 lv se mi ho dom mo dow loc last added (x) a' w' ∧ a'.tmps.getD 72 undef = .bool (!added)) (fun _ _ _ => False)) a0 w := by
 obtain ⟨hf, hs3⟩ := hi
 simp [Tryz.f202, opsAt] at hops
 subst hops
 refine wp_line_fac 172 hf.sz 2 [(71, .bool added), (72, .bool (!added))] [(7, .bool added)] ⟨hf.g7, trivial⟩ (by kernel_rfl) (fun w' => St w0 b u o t3 t4 lv se mi ho dom mo dow loc w' (x + 62135596800)) (fun _ _ h hb => h.goes hb) hs3 ?_ ?_
 ·and_intros
  all_goals first | intro hne a w hs he | exact trivial
  all_goals
   simp [Region.reads, Region.Told, Region.told1, Op.operands, Call.operands, List.lookup] at he ⊢
   have hb := Below.refl w.heap.size w
   go_simp
 ·intro a w hs hA
  have hfr := hf.keep hA.size hA.defers (fun t ht => hA.old t (by simp; omega))
  exact ⟨⟨hfr, hs⟩, hA.told.2.1⟩
theorem rg29 {added : Bool} {x : Int}  {a0 : Act} {w : World} (hi : Inv w0 b u o t3 t4 lv se mi ho dom mo dow loc last added x a0 w)
  (ops : Array Oper) (hops : opsAt 29 (Tryz.f202.body.getD .skip) = some ops) :
  (Code.region 29 ops false).wp Tryz.prog (Exit.then (fun a' w' => Inv w0 b u o t3 t4 lv se mi ho dom mo dow loc last added (x) a' w' ∧ a'.tmps.getD 115 undef = .bool (!added)) (fun _ _ _ => False)) a0 w := by
 obtain ⟨hf, hs3⟩ := hi
 simp [Tryz.f202, opsAt] at hops
 subst hops
 refine wp_line_fac 172 hf.sz 2 [(114, .bool added), (115, .bool (!added))] [(7, .bool added)] ⟨hf.g7, trivial⟩ (by kernel_rfl) (fun w' => St w0 b u o t3 t4 lv se mi ho dom mo dow loc w' (x + 62135596800)) (fun _ _ h hb => h.goes hb) hs3 ?_ ?_
 ·and_intros
  all_goals first | intro hne a w hs he | exact trivial
  all_goals
   simp [Region.reads, Region.Told, Region.told1, Op.operands, Call.operands, List.lookup] at he ⊢
   have hb := Below.refl w.heap.size w
   go_simp
 ·intro a w hs hA
  have hfr := hf.keep hA.size hA.defers (fun t ht => hA.old t (by simp; omega))
  exact ⟨⟨hfr, hs⟩, hA.told.2.1⟩
theorem rg35 {added : Bool} {x : Int}  {a0 : Act} {w : World} (hi : Inv w0 b u o t3 t4 lv se mi ho dom mo dow loc last added x a0 w)
  (ops : Array Oper) (hops : opsAt 35 (Tryz.f202.body.getD .skip) = some ops) :
  (Code.region 35 ops false).wp Tryz.prog (Exit.then (fun a' w' => Inv w0 b u o t3 t4 lv se mi ho dom mo dow loc last added (x) a' w' ∧ a'.tmps.getD 142 undef = .bool (!added)) (fun _ _ _ => False)) a0 w := by
 obtain ⟨hf, hs3⟩ := hi
 simp [Tryz.f202, opsAt] at hops
 subst hops
 refine wp_line_fac 172 hf.sz 2 [(141, .bool added), (142, .bool (!added))] [(7, .bool added)] ⟨hf.g7, trivial⟩ (by kernel_rfl) (fun w' => St w0 b u o t3 t4 lv se mi ho dom mo dow loc w' (x + 62135596800)) (fun _ _ h hb => h.goes hb) hs3 ?_ ?_
 ·and_intros
  all_goals first | intro hne a w hs he | exact trivial
  all_goals
   simp [Region.reads, Region.Told, Region.told1, Op.operands, Call.operands, List.lookup] at he ⊢
   have hb := Below.refl w.heap.size w
   go_simp
 ·intro a w hs hA
  have hfr := hf.keep hA.size hA.defers (fun t ht => hA.old t (by simp; omega))
  exact ⟨⟨hfr, hs⟩, hA.told.2.1⟩
theorem rg41 {added : Bool} {x : Int}  {a0 : Act} {w : World} (hi : Inv w0 b u o t3 t4 lv se mi ho dom mo dow loc last added x a0 w)
  (ops : Array Oper) (hops : opsAt 41 (Tryz.f202.body.getD .skip) = some ops) :
  (Code.region 41 ops false).wp Tryz.prog (Exit.then (fun a' w' => Inv w0 b u o t3 t4 lv se mi ho dom mo dow loc last added (x) a' w' ∧ a'.tmps.getD 161 undef = .bool (!added)) (fun _ _ _ => False)) a0 w := by
 obtain ⟨hf, hs3⟩ := hi
 simp [Tryz.f202, opsAt] at hops
 subst hops
 refine wp_line_fac 172 hf.sz 2 [(160, .bool added), (161, .bool (!added))] [(7, .bool added)] ⟨hf.g7, trivial⟩ (by kernel_rfl) (fun w' => St w0 b u o t3 t4 lv se mi ho dom mo dow loc w' (x + 62135596800)) (fun _ _ h hb => h.goes hb) hs3 ?_ ?_
 ·and_intros
  all_goals first | intro hne a w hs he | exact trivial
  all_goals
   simp [Region.reads, Region.Told, Region.told1, Op.operands, Call.operands, List.lookup] at he ⊢
   have hb := Below.refl w.heap.size w
   go_simp
 ·intro a w hs hA
  have hfr := hf.keep hA.size hA.defers (fun t ht => hA.old t (by simp; omega))
  exact ⟨⟨hfr, hs⟩, hA.told.2.1⟩
theorem rg14 {added : Bool} {x : Int}  {a0 : Act} {w : World} (hi : Inv w0 b u o t3 t4 lv se mi ho dom mo dow loc last added x a0 w)
  (ops : Array Oper) (hops : opsAt 14 (Tryz.f202.body.getD .skip) = some ops) :
  (Code.region 14 ops false).wp Tryz.prog (Exit.then (fun a' w' => Inv w0 b u o t3 t4 lv se mi ho dom mo dow loc last true (x) a' w') (fun _ _ _ => False)) a0 w := by
 obtain ⟨hf, hs3⟩ := hi
 simp [Tryz.f202, opsAt] at hops
 subst hops
 refine wp_line_fac 172 hf.sz 1 [(7, .bool true)] [] trivial (by kernel_rfl) (fun w' => St w0 b u o t3 t4 lv se mi ho dom mo dow loc w' (x + 62135596800)) (fun _ _ h hb => h.goes hb) hs3 ?_ ?_
 ·and_intros
  all_goals first | intro hne a w hs he | exact trivial
  all_goals
   simp [Region.reads, Region.Told, Region.told1, Op.operands, Call.operands, List.lookup] at he ⊢
   have hb := Below.refl w.heap.size w
   go_simp
 ·intro a w hs hA
  refine ⟨⟨hA.size.trans hf.sz, hA.defers.trans hf.df, (hA.old 0 (by kernel_rfl)).trans hf.g0, (hA.old 3 (by kernel_rfl)).trans hf.g3, (hA.old 4 (by kernel_rfl)).trans hf.g4, (hA.old 5 (by kernel_rfl)).trans hf.g5, (hA.old 6 (by kernel_rfl)).trans hf.g6, hA.told.1, (hA.old 8 (by kernel_rfl)).trans hf.g8⟩, hs⟩
theorem rg20 {added : Bool} {x : Int}  {a0 : Act} {w : World} (hi : Inv w0 b u o t3 t4 lv se mi ho dom mo dow loc last added x a0 w)
  (ops : Array Oper) (hops : opsAt 20 (Tryz.f202.body.getD .skip) = some ops) :
  (Code.region 20 ops false).wp Tryz.prog (Exit.then (fun a' w' => Inv w0 b u o t3 t4 lv se mi ho dom mo dow loc last true (x) a' w') (fun _ _ _ => False)) a0 w := by
 obtain ⟨hf, hs3⟩ := hi
 simp [Tryz.f202, opsAt] at hops
 subst hops
 refine wp_line_fac 172 hf.sz 1 [(7, .bool true)] [] trivial (by kernel_rfl) (fun w' => St w0 b u o t3 t4 lv se mi ho dom mo dow loc w' (x + 62135596800)) (fun _ _ h hb => h.goes hb) hs3 ?_ ?_
 ·and_intros
  all_goals first | intro hne a w hs he | exact trivial
  all_goals
   simp [Region.reads, Region.Told, Region.told1, Op.operands, Call.operands, List.lookup] at he ⊢
   have hb := Below.refl w.heap.size w
   go_simp
 ·intro a w hs hA
  refine ⟨⟨hA.size.trans hf.sz, hA.defers.trans hf.df, (hA.old 0 (by kernel_rfl)).trans hf.g0, (hA.old 3 (by kernel_rfl)).trans hf.g3, (hA.old 4 (by kernel_rfl)).trans hf.g4, (hA.old 5 (by kernel_rfl)).trans hf.g5, (hA.old 6 (by kernel_rfl)).trans hf.g6, hA.told.1, (hA.old 8 (by kernel_rfl)).trans hf.g8⟩, hs⟩
theorem rg30 {added : Bool} {x : Int}  {a0 : Act} {w : World} (hi : Inv w0 b u o t3 t4 lv se mi ho dom mo dow loc last added x a0 w)
  (ops : Array Oper) (hops : opsAt 30 (Tryz.f202.body.getD .skip) = some ops) :
  (Code.region 30 ops false).wp Tryz.prog (Exit.then (fun a' w' => Inv w0 b u o t3 t4 lv se mi ho dom mo dow loc last true (x) a' w') (fun _ _ _ => False)) a0 w := by
 obtain ⟨hf, hs3⟩ := hi
 simp [Tryz.f202, opsAt] at hops
 subst hops
 refine wp_line_fac 172 hf.sz 1 [(7, .bool true)] [] trivial (by kernel_rfl) (fun w' => St w0 b u o t3 t4 lv se mi ho dom mo dow loc w' (x + 62135596800)) (fun _ _ h hb => h.goes hb) hs3 ?_ ?_
 ·and_intros
  all_goals first | intro hne a w hs he | exact trivial
  all_goals
   simp [Region.reads, Region.Told, Region.told1, Op.operands, Call.operands, List.lookup] at he ⊢
   have hb := Below.refl w.heap.size w
   go_simp
 ·intro a w hs hA
  refine ⟨⟨hA.size.trans hf.sz, hA.defers.trans hf.df, (hA.old 0 (by kernel_rfl)).trans hf.g0, (hA.old 3 (by kernel_rfl)).trans hf.g3, (hA.old 4 (by kernel_rfl)).trans hf.g4, (hA.old 5 (by kernel_rfl)).trans hf.g5, (hA.old 6 (by kernel_rfl)).trans hf.g6, hA.told.1, (hA.old 8 (by kernel_rfl)).trans hf.g8⟩, hs⟩
theorem rg36 {added : Bool} {x : Int}  {a0 : Act} {w : World} (hi : Inv w0 b u o t3 t4 lv se mi ho dom mo dow loc last added x a0 w)
  (ops : Array Oper) (hops : opsAt 36 (Tryz.f202.body.getD .skip) = some ops) :
  (Code.region 36 ops false).wp Tryz.prog (Exit.then (fun a' w' => Inv w0 b u o t3 t4 lv se mi ho dom mo dow loc last true (x) a' w') (fun _ _ _ => False)) a0 w := by
 obtain ⟨hf, hs3⟩ := hi
 simp [Tryz.f202, opsAt] at hops
 subst hops
 refine wp_line_fac 172 hf.sz 1 [(7, .bool true)] [] trivial (by kernel_rfl) (fun w' => St w0 b u o t3 t4 lv se mi ho dom mo dow loc w' (x + 62135596800)) (fun _ _ h hb => h.goes hb) hs3 ?_ ?_
 ·and_intros
  all_goals first | intro hne a w hs he | exact trivial
  all_goals
   simp [Region.reads, Region.Told, Region.told1, Op.operands, Call.operands, List.lookup] at he ⊢
   have hb := Below.refl w.heap.size w
   go_simp
 ·intro a w hs hA
  refine ⟨⟨hA.size.trans hf.sz, hA.defers.trans hf.df, (hA.old 0 (by kernel_rfl)).trans hf.g0, (hA.old 3 (by kernel_rfl)).trans hf.g3, (hA.old 4 (by kernel_rfl)).trans hf.g4, (hA.old 5 (by kernel_rfl)).trans hf.g5, (hA.old 6 (by kernel_rfl)).trans hf.g6, hA.told.1, (hA.old 8 (by kernel_rfl)).trans hf.g8⟩, hs⟩
theorem rg42 {added : Bool} {x : Int}  {a0 : Act} {w : World} (hi : Inv w0 b u o t3 t4 lv se mi ho dom mo dow loc last added x a0 w)
  (ops : Array Oper) (hops : opsAt 42 (Tryz.f202.body.getD .skip) = some ops) :
  (Code.region 42 ops false).wp Tryz.prog (Exit.then (fun a' w' => Inv w0 b u o t3 t4 lv se mi ho dom mo dow loc last true (x) a' w') (fun _ _ _ => False)) a0 w := by
 obtain ⟨hf, hs3⟩ := hi
 simp [Tryz.f202, opsAt] at hops
 subst hops
 refine wp_line_fac 172 hf.sz 1 [(7, .bool true)] [] trivial (by kernel_rfl) (fun w' => St w0 b u o t3 t4 lv se mi ho dom mo dow loc w' (x + 62135596800)) (fun _ _ h hb => h.goes hb) hs3 ?_ ?_
 ·and_intros
  all_goals first | intro hne a w hs he | exact trivial
  all_goals
   simp [Region.reads, Region.Told, Region.told1, Op.operands, Call.operands, List.lookup] at he ⊢
   have hb := Below.refl w.heap.size w
   go_simp
 ·intro a w hs hA
  refine ⟨⟨hA.size.trans hf.sz, hA.defers.trans hf.df, (hA.old 0 (by kernel_rfl)).trans hf.g0, (hA.old 3 (by kernel_rfl)).trans hf.g3, (hA.old 4 (by kernel_rfl)).trans hf.g4, (hA.old 5 (by kernel_rfl)).trans hf.g5, (hA.old 6 (by kernel_rfl)).trans hf.g6, hA.told.1, (hA.old 8 (by kernel_rfl)).trans hf.g8⟩, hs⟩
theorem rg15 {added : Bool} {x : Int} (hxa : -62135596800 ≤ x) (hxb : x ≤ 900000000000) {a0 : Act} {w : World} (hi : Inv w0 b u o t3 t4 lv se mi ho dom mo dow loc last added x a0 w)
  (ops : Array Oper) (hops : opsAt 15 (Tryz.f202.body.getD .skip) = some ops) :
  (Code.region 15 ops true).wp Tryz.prog (Exit.then (fun a' w' => Inv w0 b u o t3 t4 lv se mi ho dom mo dow loc last added (86400 * (x / 86400 - Cal.D (x / 86400) + 1)) a' w') (fun _ _ _ => False)) a0 w := by
 obtain ⟨hf, hs3⟩ := hi
 simp [Tryz.f202, opsAt] at hops
 subst hops
 refine wp_region_fac (by kernel_rfl) 172 hf.sz 6 [(56, at_ x), (57, .int .i64 (Cal.Y (x / 86400))), (58, at_ x), (59, .int .i64 (Cal.M (x / 86400))), (60, .pointer (some ⟨u, 0, none⟩)), (61, at_ (86400 * (x / 86400 - Cal.D (x / 86400) + 1)))] [(3, .pointer (some ⟨t3, 0, none⟩)), (6, .pointer (some ⟨u, 0, none⟩))] ⟨hf.g3, hf.g6, trivial⟩ (by kernel_rfl) (fun w' => St w0 b u o t3 t4 lv se mi ho dom mo dow loc w' (x + 62135596800)) (fun _ _ h hb => h.goes hb) hs3.drew ?_ ?_
 ·and_intros
  all_goals first | intro hne a w hs he | exact trivial
  all_goals first | exact absurd rfl hne | skip
  all_goals
   obtain ⟨zts, k0, k1, k2, f0, f1, f2⟩ := hs.t
   obtain ⟨zsp, c0, c1, c2, c3, c4, c5, c6⟩ := hs.spec
   obtain ⟨zrr, r0, r1, r2, q0, q1, q2⟩ := hs.r
   simp [Region.reads, Region.Told, Region.told1, Op.operands, Call.operands, List.lookup] at he ⊢
   have hb := Below.refl w.heap.size w
   go_simp
  ·refine (year_s x hxa hxb _).mono ?_
   rintro r w4 ⟨rfl, hb4⟩
   exact ⟨_, rfl, rfl, hb4⟩
  ·refine (month_s x hxa hxb _).mono ?_
   rintro r w4 ⟨rfl, hb4⟩
   exact ⟨_, rfl, rfl, hb4⟩
  ·refine (monthStart_s x hxa hxb _ u hs.utc).mono ?_
   rintro r w4 ⟨rfl, hb4⟩
   exact ⟨_, rfl, rfl, hb4⟩
 ·intro a w hs hA
  have hfr := hf.keep hA.size hA.defers (fun t ht => hA.old t (by simp; omega))
  have e3 := (hA.old 3 (by kernel_rfl)).trans hf.g3
  have e61 := hA.told.2.2.2.2.2.1
  obtain ⟨zts, k0, k1, k2, f0, f1, f2⟩ := hs.t
  obtain ⟨zsp, c0, c1, c2, c3, c4, c5, c6⟩ := hs.spec
  obtain ⟨zrr, r0, r1, r2, q0, q1, q2⟩ := hs.r
  clear hA
  have hput := hs.put (86400 * (x / 86400 - Cal.D (x / 86400) + 1) + 62135596800)
  refine Oper.wp_mono (K := fun a' w' => a' = a ∧ w' = set3 w t3 (.int .u64 0) (.int .i64 (86400 * (x / 86400 - Cal.D (x / 86400) + 1) + 62135596800)) (.pointer none)) (fun a' w' hq => ?_) ?_
  ·obtain ⟨rfl, rfl⟩ := hq
   exact ⟨hfr, hput⟩
  ·simp only [at_, tm] at *
   clear hput hfr hf
   go_simp
theorem rg21 {added : Bool} {x : Int} (hxa : -62135596800 ≤ x) (hxb : x ≤ 900000000000) {a0 : Act} {w : World} (hi : Inv w0 b u o t3 t4 lv se mi ho dom mo dow loc last added x a0 w)
  (ops : Array Oper) (hops : opsAt 21 (Tryz.f202.body.getD .skip) = some ops) :
  (Code.region 21 ops true).wp Tryz.prog (Exit.then (fun a' w' => Inv w0 b u o t3 t4 lv se mi ho dom mo dow loc last added (86400 * (x / 86400)) a' w') (fun _ _ _ => False)) a0 w := by
 obtain ⟨hf, hs3⟩ := hi
 simp [Tryz.f202, opsAt] at hops
 subst hops
 refine wp_region_fac (by kernel_rfl) 172 hf.sz 8 [(73, at_ x), (74, .int .i64 (Cal.Y (x / 86400))), (75, at_ x), (76, .int .i64 (Cal.M (x / 86400))), (77, at_ x), (78, .int .i64 (Cal.D (x / 86400))), (79, .pointer (some ⟨u, 0, none⟩)), (80, at_ (86400 * (x / 86400)))] [(3, .pointer (some ⟨t3, 0, none⟩)), (6, .pointer (some ⟨u, 0, none⟩))] ⟨hf.g3, hf.g6, trivial⟩ (by kernel_rfl) (fun w' => St w0 b u o t3 t4 lv se mi ho dom mo dow loc w' (x + 62135596800)) (fun _ _ h hb => h.goes hb) hs3.drew ?_ ?_
 ·and_intros
  all_goals first | intro hne a w hs he | exact trivial
  all_goals first | exact absurd rfl hne | skip
  all_goals
   obtain ⟨zts, k0, k1, k2, f0, f1, f2⟩ := hs.t
   obtain ⟨zsp, c0, c1, c2, c3, c4, c5, c6⟩ := hs.spec
   obtain ⟨zrr, r0, r1, r2, q0, q1, q2⟩ := hs.r
   simp [Region.reads, Region.Told, Region.told1, Op.operands, Call.operands, List.lookup] at he ⊢
   have hb := Below.refl w.heap.size w
   go_simp
  ·refine (year_s x hxa hxb _).mono ?_
   rintro r w4 ⟨rfl, hb4⟩
   exact ⟨_, rfl, rfl, hb4⟩
  ·refine (month_s x hxa hxb _).mono ?_
   rintro r w4 ⟨rfl, hb4⟩
   exact ⟨_, rfl, rfl, hb4⟩
  ·refine (day_s x hxa hxb _).mono ?_
   rintro r w4 ⟨rfl, hb4⟩
   exact ⟨_, rfl, rfl, hb4⟩
  ·refine (dayStart_s x hxa hxb _ u hs.utc).mono ?_
   rintro r w4 ⟨rfl, hb4⟩
   exact ⟨_, rfl, rfl, hb4⟩
 ·intro a w hs hA
  have hfr := hf.keep hA.size hA.defers (fun t ht => hA.old t (by simp; omega))
  have e3 := (hA.old 3 (by kernel_rfl)).trans hf.g3
  have e80 := hA.told.2.2.2.2.2.2.2.1
  obtain ⟨zts, k0, k1, k2, f0, f1, f2⟩ := hs.t
  obtain ⟨zsp, c0, c1, c2, c3, c4, c5, c6⟩ := hs.spec
  obtain ⟨zrr, r0, r1, r2, q0, q1, q2⟩ := hs.r
  clear hA
  have hput := hs.put (86400 * (x / 86400) + 62135596800)
  refine Oper.wp_mono (K := fun a' w' => a' = a ∧ w' = set3 w t3 (.int .u64 0) (.int .i64 (86400 * (x / 86400) + 62135596800)) (.pointer none)) (fun a' w' hq => ?_) ?_
  ·obtain ⟨rfl, rfl⟩ := hq
   exact ⟨hfr, hput⟩
  ·simp only [at_, tm] at *
   clear hput hfr hf
   go_simp
theorem rg31 {added : Bool} {x : Int} (hxa : -62135596800 ≤ x) (hxb : x ≤ 900000000000) {a0 : Act} {w : World} (hi : Inv w0 b u o t3 t4 lv se mi ho dom mo dow loc last added x a0 w)
  (ops : Array Oper) (hops : opsAt 31 (Tryz.f202.body.getD .skip) = some ops) :
  (Code.region 31 ops true).wp Tryz.prog (Exit.then (fun a' w' => Inv w0 b u o t3 t4 lv se mi ho dom mo dow loc last added (86400 * (x / 86400) + x % 86400 / 3600 * 3600) a' w') (fun _ _ _ => False)) a0 w := by
 obtain ⟨hf, hs3⟩ := hi
 simp [Tryz.f202, opsAt] at hops
 subst hops
 refine wp_region_fac (by kernel_rfl) 172 hf.sz 10 [(116, at_ x), (117, .int .i64 (Cal.Y (x / 86400))), (118, at_ x), (119, .int .i64 (Cal.M (x / 86400))), (120, at_ x), (121, .int .i64 (Cal.D (x / 86400))), (122, at_ x), (123, .int .i64 (x % 86400 / 3600)), (124, .pointer (some ⟨u, 0, none⟩)), (125, at_ (86400 * (x / 86400) + x % 86400 / 3600 * 3600))] [(3, .pointer (some ⟨t3, 0, none⟩)), (6, .pointer (some ⟨u, 0, none⟩))] ⟨hf.g3, hf.g6, trivial⟩ (by kernel_rfl) (fun w' => St w0 b u o t3 t4 lv se mi ho dom mo dow loc w' (x + 62135596800)) (fun _ _ h hb => h.goes hb) hs3.drew ?_ ?_
 ·and_intros
  all_goals first | intro hne a w hs he | exact trivial
  all_goals first | exact absurd rfl hne | skip
  all_goals
   obtain ⟨zts, k0, k1, k2, f0, f1, f2⟩ := hs.t
   obtain ⟨zsp, c0, c1, c2, c3, c4, c5, c6⟩ := hs.spec
   obtain ⟨zrr, r0, r1, r2, q0, q1, q2⟩ := hs.r
   simp [Region.reads, Region.Told, Region.told1, Op.operands, Call.operands, List.lookup] at he ⊢
   have hb := Below.refl w.heap.size w
   go_simp
  ·refine (year_s x hxa hxb _).mono ?_
   rintro r w4 ⟨rfl, hb4⟩
   exact ⟨_, rfl, rfl, hb4⟩
  ·refine (month_s x hxa hxb _).mono ?_
   rintro r w4 ⟨rfl, hb4⟩
   exact ⟨_, rfl, rfl, hb4⟩
  ·refine (day_s x hxa hxb _).mono ?_
   rintro r w4 ⟨rfl, hb4⟩
   exact ⟨_, rfl, rfl, hb4⟩
  ·refine (hour_s x hxa hxb _).mono ?_
   rintro r w4 ⟨rfl, hb4⟩
   exact ⟨_, rfl, rfl, hb4⟩
  ·refine (hourStart_s x hxa hxb _ (x % 86400 / 3600) (by omega) (by omega) u hs.utc).mono ?_
   rintro r w4 ⟨rfl, hb4⟩
   exact ⟨_, rfl, rfl, hb4⟩
 ·intro a w hs hA
  have hfr := hf.keep hA.size hA.defers (fun t ht => hA.old t (by simp; omega))
  have e3 := (hA.old 3 (by kernel_rfl)).trans hf.g3
  have e125 := hA.told.2.2.2.2.2.2.2.2.2.1
  obtain ⟨zts, k0, k1, k2, f0, f1, f2⟩ := hs.t
  obtain ⟨zsp, c0, c1, c2, c3, c4, c5, c6⟩ := hs.spec
  obtain ⟨zrr, r0, r1, r2, q0, q1, q2⟩ := hs.r
  clear hA
  have hput := hs.put (86400 * (x / 86400) + x % 86400 / 3600 * 3600 + 62135596800)
  refine Oper.wp_mono (K := fun a' w' => a' = a ∧ w' = set3 w t3 (.int .u64 0) (.int .i64 (86400 * (x / 86400) + x % 86400 / 3600 * 3600 + 62135596800)) (.pointer none)) (fun a' w' hq => ?_) ?_
  ·obtain ⟨rfl, rfl⟩ := hq
   exact ⟨hfr, hput⟩
  ·simp only [at_, tm] at *
   clear hput hfr hf
   go_simp
theorem rg37 {added : Bool} {x : Int} (hxa : -62135596800 ≤ x) (hxb : x ≤ 900000000000) {a0 : Act} {w : World} (hi : Inv w0 b u o t3 t4 lv se mi ho dom mo dow loc last added x a0 w)
  (ops : Array Oper) (hops : opsAt 37 (Tryz.f202.body.getD .skip) = some ops) :
  (Code.region 37 ops false).wp Tryz.prog (Exit.then (fun a' w' => Inv w0 b u o t3 t4 lv se mi ho dom mo dow loc last added (x - x % 60) a' w') (fun _ _ _ => False)) a0 w := by
 obtain ⟨hf, hs3⟩ := hi
 simp [Tryz.f202, opsAt] at hops
 subst hops
 refine wp_line_fac 172 hf.sz 2 [(143, at_ x), (144, at_ (x - x % 60))] [(3, .pointer (some ⟨t3, 0, none⟩))] ⟨hf.g3, trivial⟩ (by kernel_rfl) (fun w' => St w0 b u o t3 t4 lv se mi ho dom mo dow loc w' (x + 62135596800)) (fun _ _ h hb => h.goes hb) hs3 ?_ ?_
 ·and_intros
  all_goals first | intro hne a w hs he | exact trivial
  all_goals first | exact absurd rfl hne | skip
  all_goals
   obtain ⟨zts, k0, k1, k2, f0, f1, f2⟩ := hs.t
   obtain ⟨zsp, c0, c1, c2, c3, c4, c5, c6⟩ := hs.spec
   obtain ⟨zrr, r0, r1, r2, q0, q1, q2⟩ := hs.r
   simp [Region.reads, Region.Told, Region.told1, Op.operands, Call.operands, List.lookup] at he ⊢
   have hb := Below.refl w.heap.size w
   go_simp
  ·refine (truncMinute_s x hxa hxb _).mono ?_
   rintro r w4 ⟨rfl, hb4⟩
   exact ⟨_, rfl, rfl, hb4⟩
 ·intro a w hs hA
  have hfr := hf.keep hA.size hA.defers (fun t ht => hA.old t (by simp; omega))
  have e3 := (hA.old 3 (by kernel_rfl)).trans hf.g3
  have e144 := hA.told.2.1
  obtain ⟨zts, k0, k1, k2, f0, f1, f2⟩ := hs.t
  obtain ⟨zsp, c0, c1, c2, c3, c4, c5, c6⟩ := hs.spec
  obtain ⟨zrr, r0, r1, r2, q0, q1, q2⟩ := hs.r
  clear hA
  have hput := hs.put (x - x % 60 + 62135596800)
  refine Oper.wp_mono (K := fun a' w' => a' = a ∧ w' = set3 w t3 (.int .u64 0) (.int .i64 (x - x % 60 + 62135596800)) (.pointer none)) (fun a' w' hq => ?_) ?_
  ·obtain ⟨rfl, rfl⟩ := hq
   exact ⟨hfr, hput⟩
  ·simp only [at_, tm] at *
   clear hput hfr hf
   go_simp
theorem rg43 {added : Bool} {x : Int} (hxa : -62135596800 ≤ x) (hxb : x ≤ 900000000000) {a0 : Act} {w : World} (hi : Inv w0 b u o t3 t4 lv se mi ho dom mo dow loc last added x a0 w)
  (ops : Array Oper) (hops : opsAt 43 (Tryz.f202.body.getD .skip) = some ops) :
  (Code.region 43 ops false).wp Tryz.prog (Exit.then (fun a' w' => Inv w0 b u o t3 t4 lv se mi ho dom mo dow loc last added (x) a' w') (fun _ _ _ => False)) a0 w := by
 obtain ⟨hf, hs3⟩ := hi
 simp [Tryz.f202, opsAt] at hops
 subst hops
 refine wp_line_fac 172 hf.sz 2 [(162, at_ x), (163, at_ x)] [(3, .pointer (some ⟨t3, 0, none⟩))] ⟨hf.g3, trivial⟩ (by kernel_rfl) (fun w' => St w0 b u o t3 t4 lv se mi ho dom mo dow loc w' (x + 62135596800)) (fun _ _ h hb => h.goes hb) hs3 ?_ ?_
 ·and_intros
  all_goals first | intro hne a w hs he | exact trivial
  all_goals first | exact absurd rfl hne | skip
  all_goals
   obtain ⟨zts, k0, k1, k2, f0, f1, f2⟩ := hs.t
   obtain ⟨zsp, c0, c1, c2, c3, c4, c5, c6⟩ := hs.spec
   obtain ⟨zrr, r0, r1, r2, q0, q1, q2⟩ := hs.r
   simp [Region.reads, Region.Told, Region.told1, Op.operands, Call.operands, List.lookup] at he ⊢
   have hb := Below.refl w.heap.size w
   go_simp
  ·refine (truncSecond_s x hxa hxb _).mono ?_
   rintro r w4 ⟨rfl, hb4⟩
   exact ⟨_, rfl, rfl, hb4⟩
 ·intro a w hs hA
  have hfr := hf.keep hA.size hA.defers (fun t ht => hA.old t (by simp; omega))
  have e3 := (hA.old 3 (by kernel_rfl)).trans hf.g3
  have e163 := hA.told.2.1
  obtain ⟨zts, k0, k1, k2, f0, f1, f2⟩ := hs.t
  obtain ⟨zsp, c0, c1, c2, c3, c4, c5, c6⟩ := hs.spec
  obtain ⟨zrr, r0, r1, r2, q0, q1, q2⟩ := hs.r
  clear hA
  have hput := hs.put (x + 62135596800)
  refine Oper.wp_mono (K := fun a' w' => a' = a ∧ w' = set3 w t3 (.int .u64 0) (.int .i64 (x + 62135596800)) (.pointer none)) (fun a' w' hq => ?_) ?_
  ·obtain ⟨rfl, rfl⟩ := hq
   exact ⟨hfr, hput⟩
  ·simp only [at_, tm] at *
   clear hput hfr hf
   go_simp
theorem rg16 {added : Bool} {x : Int} (hxa : -62135596800 ≤ x) (hxb : x ≤ 900000000000) (hd : Cal.D (x / 86400) = 1) (hz0 : x % 86400 = 0) {a0 : Act} {w : World} (hi : Inv w0 b u o t3 t4 lv se mi ho dom mo dow loc last added x a0 w)
  (ops : Array Oper) (hops : opsAt 16 (Tryz.f202.body.getD .skip) = some ops) :
  (Code.region 16 ops false).wp Tryz.prog (Exit.then (fun a' w' => Inv w0 b u o t3 t4 lv se mi ho dom mo dow loc last added (86400 * Cal.nm (x / 86400)) a' w') (fun _ _ _ => False)) a0 w := by
 obtain ⟨hf, hs3⟩ := hi
 simp [Tryz.f202, opsAt] at hops
 subst hops
 refine wp_line_fac 172 hf.sz 2 [(62, at_ x), (63, at_ (86400 * Cal.nm (x / 86400)))] [(3, .pointer (some ⟨t3, 0, none⟩))] ⟨hf.g3, trivial⟩ (by kernel_rfl) (fun w' => St w0 b u o t3 t4 lv se mi ho dom mo dow loc w' (x + 62135596800)) (fun _ _ h hb => h.goes hb) hs3 ?_ ?_
 ·and_intros
  all_goals first | intro hne a w hs he | exact trivial
  all_goals first | exact absurd rfl hne | skip
  all_goals
   obtain ⟨zts, k0, k1, k2, f0, f1, f2⟩ := hs.t
   obtain ⟨zsp, c0, c1, c2, c3, c4, c5, c6⟩ := hs.spec
   obtain ⟨zrr, r0, r1, r2, q0, q1, q2⟩ := hs.r
   simp [Region.reads, Region.Told, Region.told1, Op.operands, Call.operands, List.lookup] at he ⊢
   have hb := Below.refl w.heap.size w
   go_simp
  ·refine (addMonth_s x hxa hxb _ hd hz0).mono ?_
   rintro r w4 ⟨rfl, hb4⟩
   exact ⟨_, rfl, rfl, hb4⟩
 ·intro a w hs hA
  have hfr := hf.keep hA.size hA.defers (fun t ht => hA.old t (by simp; omega))
  have e3 := (hA.old 3 (by kernel_rfl)).trans hf.g3
  have e63 := hA.told.2.1
  obtain ⟨zts, k0, k1, k2, f0, f1, f2⟩ := hs.t
  obtain ⟨zsp, c0, c1, c2, c3, c4, c5, c6⟩ := hs.spec
  obtain ⟨zrr, r0, r1, r2, q0, q1, q2⟩ := hs.r
  clear hA
  have hput := hs.put (86400 * Cal.nm (x / 86400) + 62135596800)
  refine Oper.wp_mono (K := fun a' w' => a' = a ∧ w' = set3 w t3 (.int .u64 0) (.int .i64 (86400 * Cal.nm (x / 86400) + 62135596800)) (.pointer none)) (fun a' w' hq => ?_) ?_
  ·obtain ⟨rfl, rfl⟩ := hq
   exact ⟨hfr, hput⟩
  ·simp only [at_, tm] at *
   clear hput hfr hf
   go_simp
theorem rg22 {added : Bool} {x : Int} (hxa : -62135596800 ≤ x) (hxb : x ≤ 900000000000) {a0 : Act} {w : World} (hi : Inv w0 b u o t3 t4 lv se mi ho dom mo dow loc last added x a0 w)
  (ops : Array Oper) (hops : opsAt 22 (Tryz.f202.body.getD .skip) = some ops) :
  (Code.region 22 ops false).wp Tryz.prog (Exit.then (fun a' w' => Inv w0 b u o t3 t4 lv se mi ho dom mo dow loc last added (x + 86400) a' w') (fun _ _ _ => False)) a0 w := by
 obtain ⟨hf, hs3⟩ := hi
 simp [Tryz.f202, opsAt] at hops
 subst hops
 refine wp_line_fac 172 hf.sz 2 [(81, at_ x), (82, at_ (x + 86400))] [(3, .pointer (some ⟨t3, 0, none⟩))] ⟨hf.g3, trivial⟩ (by kernel_rfl) (fun w' => St w0 b u o t3 t4 lv se mi ho dom mo dow loc w' (x + 62135596800)) (fun _ _ h hb => h.goes hb) hs3 ?_ ?_
 ·and_intros
  all_goals first | intro hne a w hs he | exact trivial
  all_goals first | exact absurd rfl hne | skip
  all_goals
   obtain ⟨zts, k0, k1, k2, f0, f1, f2⟩ := hs.t
   obtain ⟨zsp, c0, c1, c2, c3, c4, c5, c6⟩ := hs.spec
   obtain ⟨zrr, r0, r1, r2, q0, q1, q2⟩ := hs.r
   simp [Region.reads, Region.Told, Region.told1, Op.operands, Call.operands, List.lookup] at he ⊢
   have hb := Below.refl w.heap.size w
   go_simp
  ·refine (addDay_s x hxa hxb _).mono ?_
   rintro r w4 ⟨rfl, hb4⟩
   exact ⟨_, rfl, rfl, hb4⟩
 ·intro a w hs hA
  have hfr := hf.keep hA.size hA.defers (fun t ht => hA.old t (by simp; omega))
  have e3 := (hA.old 3 (by kernel_rfl)).trans hf.g3
  have e82 := hA.told.2.1
  obtain ⟨zts, k0, k1, k2, f0, f1, f2⟩ := hs.t
  obtain ⟨zsp, c0, c1, c2, c3, c4, c5, c6⟩ := hs.spec
  obtain ⟨zrr, r0, r1, r2, q0, q1, q2⟩ := hs.r
  clear hA
  have hput := hs.put (x + 86400 + 62135596800)
  refine Oper.wp_mono (K := fun a' w' => a' = a ∧ w' = set3 w t3 (.int .u64 0) (.int .i64 (x + 86400 + 62135596800)) (.pointer none)) (fun a' w' hq => ?_) ?_
  ·obtain ⟨rfl, rfl⟩ := hq
   exact ⟨hfr, hput⟩
  ·simp only [at_, tm] at *
   clear hput hfr hf
   go_simp
theorem rg32 {added : Bool} {x : Int} (hxa : -62135596800 ≤ x) (hxb : x ≤ 900000000000) {a0 : Act} {w : World} (hi : Inv w0 b u o t3 t4 lv se mi ho dom mo dow loc last added x a0 w)
  (ops : Array Oper) (hops : opsAt 32 (Tryz.f202.body.getD .skip) = some ops) :
  (Code.region 32 ops false).wp Tryz.prog (Exit.then (fun a' w' => Inv w0 b u o t3 t4 lv se mi ho dom mo dow loc last added (x + 3600) a' w') (fun _ _ _ => False)) a0 w := by
 obtain ⟨hf, hs3⟩ := hi
 simp [Tryz.f202, opsAt] at hops
 subst hops
 refine wp_line_fac 172 hf.sz 2 [(126, at_ x), (127, at_ (x + 3600))] [(3, .pointer (some ⟨t3, 0, none⟩))] ⟨hf.g3, trivial⟩ (by kernel_rfl) (fun w' => St w0 b u o t3 t4 lv se mi ho dom mo dow loc w' (x + 62135596800)) (fun _ _ h hb => h.goes hb) hs3 ?_ ?_
 ·and_intros
  all_goals first | intro hne a w hs he | exact trivial
  all_goals first | exact absurd rfl hne | skip
  all_goals
   obtain ⟨zts, k0, k1, k2, f0, f1, f2⟩ := hs.t
   obtain ⟨zsp, c0, c1, c2, c3, c4, c5, c6⟩ := hs.spec
   obtain ⟨zrr, r0, r1, r2, q0, q1, q2⟩ := hs.r
   simp [Region.reads, Region.Told, Region.told1, Op.operands, Call.operands, List.lookup] at he ⊢
   have hb := Below.refl w.heap.size w
   go_simp
  ·refine (add_s x hxa hxb _ 3600 3600000000000 (by decide) (by decide) (by decide)).mono ?_
   rintro r w4 ⟨rfl, hb4⟩
   exact ⟨_, rfl, rfl, hb4⟩
 ·intro a w hs hA
  have hfr := hf.keep hA.size hA.defers (fun t ht => hA.old t (by simp; omega))
  have e3 := (hA.old 3 (by kernel_rfl)).trans hf.g3
  have e127 := hA.told.2.1
  obtain ⟨zts, k0, k1, k2, f0, f1, f2⟩ := hs.t
  obtain ⟨zsp, c0, c1, c2, c3, c4, c5, c6⟩ := hs.spec
  obtain ⟨zrr, r0, r1, r2, q0, q1, q2⟩ := hs.r
  clear hA
  have hput := hs.put (x + 3600 + 62135596800)
  refine Oper.wp_mono (K := fun a' w' => a' = a ∧ w' = set3 w t3 (.int .u64 0) (.int .i64 (x + 3600 + 62135596800)) (.pointer none)) (fun a' w' hq => ?_) ?_
  ·obtain ⟨rfl, rfl⟩ := hq
   exact ⟨hfr, hput⟩
  ·simp only [at_, tm] at *
   clear hput hfr hf
   go_simp
theorem rg38 {added : Bool} {x : Int} (hxa : -62135596800 ≤ x) (hxb : x ≤ 900000000000) {a0 : Act} {w : World} (hi : Inv w0 b u o t3 t4 lv se mi ho dom mo dow loc last added x a0 w)
  (ops : Array Oper) (hops : opsAt 38 (Tryz.f202.body.getD .skip) = some ops) :
  (Code.region 38 ops false).wp Tryz.prog (Exit.then (fun a' w' => Inv w0 b u o t3 t4 lv se mi ho dom mo dow loc last added (x + 60) a' w') (fun _ _ _ => False)) a0 w := by
 obtain ⟨hf, hs3⟩ := hi
 simp [Tryz.f202, opsAt] at hops
 subst hops
 refine wp_line_fac 172 hf.sz 2 [(145, at_ x), (146, at_ (x + 60))] [(3, .pointer (some ⟨t3, 0, none⟩))] ⟨hf.g3, trivial⟩ (by kernel_rfl) (fun w' => St w0 b u o t3 t4 lv se mi ho dom mo dow loc w' (x + 62135596800)) (fun _ _ h hb => h.goes hb) hs3 ?_ ?_
 ·and_intros
  all_goals first | intro hne a w hs he | exact trivial
  all_goals first | exact absurd rfl hne | skip
  all_goals
   obtain ⟨zts, k0, k1, k2, f0, f1, f2⟩ := hs.t
   obtain ⟨zsp, c0, c1, c2, c3, c4, c5, c6⟩ := hs.spec
   obtain ⟨zrr, r0, r1, r2, q0, q1, q2⟩ := hs.r
   simp [Region.reads, Region.Told, Region.told1, Op.operands, Call.operands, List.lookup] at he ⊢
   have hb := Below.refl w.heap.size w
   go_simp
  ·refine (add_s x hxa hxb _ 60 60000000000 (by decide) (by decide) (by decide)).mono ?_
   rintro r w4 ⟨rfl, hb4⟩
   exact ⟨_, rfl, rfl, hb4⟩
 ·intro a w hs hA
  have hfr := hf.keep hA.size hA.defers (fun t ht => hA.old t (by simp; omega))
  have e3 := (hA.old 3 (by kernel_rfl)).trans hf.g3
  have e146 := hA.told.2.1
  obtain ⟨zts, k0, k1, k2, f0, f1, f2⟩ := hs.t
  obtain ⟨zsp, c0, c1, c2, c3, c4, c5, c6⟩ := hs.spec
  obtain ⟨zrr, r0, r1, r2, q0, q1, q2⟩ := hs.r
  clear hA
  have hput := hs.put (x + 60 + 62135596800)
  refine Oper.wp_mono (K := fun a' w' => a' = a ∧ w' = set3 w t3 (.int .u64 0) (.int .i64 (x + 60 + 62135596800)) (.pointer none)) (fun a' w' hq => ?_) ?_
  ·obtain ⟨rfl, rfl⟩ := hq
   exact ⟨hfr, hput⟩
  ·simp only [at_, tm] at *
   clear hput hfr hf
   go_simp
theorem rg44 {added : Bool} {x : Int} (hxa : -62135596800 ≤ x) (hxb : x ≤ 900000000000) {a0 : Act} {w : World} (hi : Inv w0 b u o t3 t4 lv se mi ho dom mo dow loc last added x a0 w)
  (ops : Array Oper) (hops : opsAt 44 (Tryz.f202.body.getD .skip) = some ops) :
  (Code.region 44 ops false).wp Tryz.prog (Exit.then (fun a' w' => Inv w0 b u o t3 t4 lv se mi ho dom mo dow loc last added (x + 1) a' w') (fun _ _ _ => False)) a0 w := by
 obtain ⟨hf, hs3⟩ := hi
 simp [Tryz.f202, opsAt] at hops
 subst hops
 refine wp_line_fac 172 hf.sz 2 [(164, at_ x), (165, at_ (x + 1))] [(3, .pointer (some ⟨t3, 0, none⟩))] ⟨hf.g3, trivial⟩ (by kernel_rfl) (fun w' => St w0 b u o t3 t4 lv se mi ho dom mo dow loc w' (x + 62135596800)) (fun _ _ h hb => h.goes hb) hs3 ?_ ?_
 ·and_intros
  all_goals first | intro hne a w hs he | exact trivial
  all_goals first | exact absurd rfl hne | skip
  all_goals
   obtain ⟨zts, k0, k1, k2, f0, f1, f2⟩ := hs.t
   obtain ⟨zsp, c0, c1, c2, c3, c4, c5, c6⟩ := hs.spec
   obtain ⟨zrr, r0, r1, r2, q0, q1, q2⟩ := hs.r
   simp [Region.reads, Region.Told, Region.told1, Op.operands, Call.operands, List.lookup] at he ⊢
   have hb := Below.refl w.heap.size w
   go_simp
  ·refine (add_s x hxa hxb _ 1 1000000000 (by decide) (by decide) (by decide)).mono ?_
   rintro r w4 ⟨rfl, hb4⟩
   exact ⟨_, rfl, rfl, hb4⟩
 ·intro a w hs hA
  have hfr := hf.keep hA.size hA.defers (fun t ht => hA.old t (by simp; omega))
  have e3 := (hA.old 3 (by kernel_rfl)).trans hf.g3
  have e165 := hA.told.2.1
  obtain ⟨zts, k0, k1, k2, f0, f1, f2⟩ := hs.t
  obtain ⟨zsp, c0, c1, c2, c3, c4, c5, c6⟩ := hs.spec
  obtain ⟨zrr, r0, r1, r2, q0, q1, q2⟩ := hs.r
  clear hA
  have hput := hs.put (x + 1 + 62135596800)
  refine Oper.wp_mono (K := fun a' w' => a' = a ∧ w' = set3 w t3 (.int .u64 0) (.int .i64 (x + 1 + 62135596800)) (.pointer none)) (fun a' w' hq => ?_) ?_
  ·obtain ⟨rfl, rfl⟩ := hq
   exact ⟨hfr, hput⟩
  ·simp only [at_, tm] at *
   clear hput hfr hf
   go_simp
theorem rg17 {added : Bool} {x : Int} (hxa : -62135596800 ≤ x) (hxb : x ≤ 900000000000) {a0 : Act} {w : World} (hi : Inv w0 b u o t3 t4 lv se mi ho dom mo dow loc last added x a0 w)
  (ops : Array Oper) (hops : opsAt 17 (Tryz.f202.body.getD .skip) = some ops) :
  (Code.region 17 ops false).wp Tryz.prog (Exit.then (fun a' w' => Inv w0 b u o t3 t4 lv se mi ho dom mo dow loc last added (x) a' w' ∧ a'.tmps.getD 66 undef = .bool (Cal.M (x / 86400) == 1)) (fun _ _ _ => False)) a0 w := by
 obtain ⟨hf, hs3⟩ := hi
 simp [Tryz.f202, opsAt] at hops
 subst hops
 refine wp_line_fac 172 hf.sz 3 [(64, at_ x), (65, .int .i64 (Cal.M (x / 86400))), (66, .bool (Cal.M (x / 86400) == 1))] [(3, .pointer (some ⟨t3, 0, none⟩))] ⟨hf.g3, trivial⟩ (by kernel_rfl) (fun w' => St w0 b u o t3 t4 lv se mi ho dom mo dow loc w' (x + 62135596800)) (fun _ _ h hb => h.goes hb) hs3 ?_ ?_
 ·and_intros
  all_goals first | intro hne a w hs he | exact trivial
  all_goals
   obtain ⟨zts, k0, k1, k2, f0, f1, f2⟩ := hs.t
   obtain ⟨zsp, c0, c1, c2, c3, c4, c5, c6⟩ := hs.spec
   obtain ⟨zrr, r0, r1, r2, q0, q1, q2⟩ := hs.r
   simp [Region.reads, Region.Told, Region.told1, Op.operands, Call.operands, List.lookup] at he ⊢
   have hb := Below.refl w.heap.size w
   go_simp
  ·refine (month_s x hxa hxb _).mono ?_
   rintro r w4 ⟨rfl, hb4⟩
   exact ⟨_, rfl, rfl, hb4⟩
 ·intro a w hs hA
  have hfr := hf.keep hA.size hA.defers (fun t ht => hA.old t (by simp; omega))
  exact ⟨⟨hfr, hs⟩, hA.told.2.2.1⟩
theorem rg27 {added : Bool} {x : Int} (hxa : -62135596800 ≤ x) (hxb : x ≤ 900000000000) {a0 : Act} {w : World} (hi : Inv w0 b u o t3 t4 lv se mi ho dom mo dow loc last added x a0 w)
  (ops : Array Oper) (hops : opsAt 27 (Tryz.f202.body.getD .skip) = some ops) :
  (Code.region 27 ops false).wp Tryz.prog (Exit.then (fun a' w' => Inv w0 b u o t3 t4 lv se mi ho dom mo dow loc last added (x) a' w' ∧ a'.tmps.getD 103 undef = .bool (Cal.D (x / 86400) == 1)) (fun _ _ _ => False)) a0 w := by
 obtain ⟨hf, hs3⟩ := hi
 simp [Tryz.f202, opsAt] at hops
 subst hops
 refine wp_line_fac 172 hf.sz 3 [(101, at_ x), (102, .int .i64 (Cal.D (x / 86400))), (103, .bool (Cal.D (x / 86400) == 1))] [(3, .pointer (some ⟨t3, 0, none⟩))] ⟨hf.g3, trivial⟩ (by kernel_rfl) (fun w' => St w0 b u o t3 t4 lv se mi ho dom mo dow loc w' (x + 62135596800)) (fun _ _ h hb => h.goes hb) hs3 ?_ ?_
 ·and_intros
  all_goals first | intro hne a w hs he | exact trivial
  all_goals
   obtain ⟨zts, k0, k1, k2, f0, f1, f2⟩ := hs.t
   obtain ⟨zsp, c0, c1, c2, c3, c4, c5, c6⟩ := hs.spec
   obtain ⟨zrr, r0, r1, r2, q0, q1, q2⟩ := hs.r
   simp [Region.reads, Region.Told, Region.told1, Op.operands, Call.operands, List.lookup] at he ⊢
   have hb := Below.refl w.heap.size w
   go_simp
  ·refine (day_s x hxa hxb _).mono ?_
   rintro r w4 ⟨rfl, hb4⟩
   exact ⟨_, rfl, rfl, hb4⟩
 ·intro a w hs hA
  have hfr := hf.keep hA.size hA.defers (fun t ht => hA.old t (by simp; omega))
  exact ⟨⟨hfr, hs⟩, hA.told.2.2.1⟩
theorem rg33 {added : Bool} {x : Int} (hxa : -62135596800 ≤ x) (hxb : x ≤ 900000000000) {a0 : Act} {w : World} (hi : Inv w0 b u o t3 t4 lv se mi ho dom mo dow loc last added x a0 w)
  (ops : Array Oper) (hops : opsAt 33 (Tryz.f202.body.getD .skip) = some ops) :
  (Code.region 33 ops false).wp Tryz.prog (Exit.then (fun a' w' => Inv w0 b u o t3 t4 lv se mi ho dom mo dow loc last added (x) a' w' ∧ a'.tmps.getD 130 undef = .bool (x % 86400 / 3600 == 0)) (fun _ _ _ => False)) a0 w := by
 obtain ⟨hf, hs3⟩ := hi
 simp [Tryz.f202, opsAt] at hops
 subst hops
 refine wp_line_fac 172 hf.sz 3 [(128, at_ x), (129, .int .i64 (x % 86400 / 3600)), (130, .bool (x % 86400 / 3600 == 0))] [(3, .pointer (some ⟨t3, 0, none⟩))] ⟨hf.g3, trivial⟩ (by kernel_rfl) (fun w' => St w0 b u o t3 t4 lv se mi ho dom mo dow loc w' (x + 62135596800)) (fun _ _ h hb => h.goes hb) hs3 ?_ ?_
 ·and_intros
  all_goals first | intro hne a w hs he | exact trivial
  all_goals
   obtain ⟨zts, k0, k1, k2, f0, f1, f2⟩ := hs.t
   obtain ⟨zsp, c0, c1, c2, c3, c4, c5, c6⟩ := hs.spec
   obtain ⟨zrr, r0, r1, r2, q0, q1, q2⟩ := hs.r
   simp [Region.reads, Region.Told, Region.told1, Op.operands, Call.operands, List.lookup] at he ⊢
   have hb := Below.refl w.heap.size w
   go_simp
  ·refine (hour_s x hxa hxb _).mono ?_
   rintro r w4 ⟨rfl, hb4⟩
   exact ⟨_, rfl, rfl, hb4⟩
 ·intro a w hs hA
  have hfr := hf.keep hA.size hA.defers (fun t ht => hA.old t (by simp; omega))
  exact ⟨⟨hfr, hs⟩, hA.told.2.2.1⟩
theorem rg39 {added : Bool} {x : Int} (hxa : -62135596800 ≤ x) (hxb : x ≤ 900000000000) {a0 : Act} {w : World} (hi : Inv w0 b u o t3 t4 lv se mi ho dom mo dow loc last added x a0 w)
  (ops : Array Oper) (hops : opsAt 39 (Tryz.f202.body.getD .skip) = some ops) :
  (Code.region 39 ops false).wp Tryz.prog (Exit.then (fun a' w' => Inv w0 b u o t3 t4 lv se mi ho dom mo dow loc last added (x) a' w' ∧ a'.tmps.getD 149 undef = .bool (x % 3600 / 60 == 0)) (fun _ _ _ => False)) a0 w := by
 obtain ⟨hf, hs3⟩ := hi
 simp [Tryz.f202, opsAt] at hops
 subst hops
 refine wp_line_fac 172 hf.sz 3 [(147, at_ x), (148, .int .i64 (x % 3600 / 60)), (149, .bool (x % 3600 / 60 == 0))] [(3, .pointer (some ⟨t3, 0, none⟩))] ⟨hf.g3, trivial⟩ (by kernel_rfl) (fun w' => St w0 b u o t3 t4 lv se mi ho dom mo dow loc w' (x + 62135596800)) (fun _ _ h hb => h.goes hb) hs3 ?_ ?_
 ·and_intros
  all_goals first | intro hne a w hs he | exact trivial
  all_goals
   obtain ⟨zts, k0, k1, k2, f0, f1, f2⟩ := hs.t
   obtain ⟨zsp, c0, c1, c2, c3, c4, c5, c6⟩ := hs.spec
   obtain ⟨zrr, r0, r1, r2, q0, q1, q2⟩ := hs.r
   simp [Region.reads, Region.Told, Region.told1, Op.operands, Call.operands, List.lookup] at he ⊢
   have hb := Below.refl w.heap.size w
   go_simp
  ·refine (minute_s x hxa hxb _).mono ?_
   rintro r w4 ⟨rfl, hb4⟩
   exact ⟨_, rfl, rfl, hb4⟩
 ·intro a w hs hA
  have hfr := hf.keep hA.size hA.defers (fun t ht => hA.old t (by simp; omega))
  exact ⟨⟨hfr, hs⟩, hA.told.2.2.1⟩
theorem rg45 {added : Bool} {x : Int} (hxa : -62135596800 ≤ x) (hxb : x ≤ 900000000000) {a0 : Act} {w : World} (hi : Inv w0 b u o t3 t4 lv se mi ho dom mo dow loc last added x a0 w)
  (ops : Array Oper) (hops : opsAt 45 (Tryz.f202.body.getD .skip) = some ops) :
  (Code.region 45 ops false).wp Tryz.prog (Exit.then (fun a' w' => Inv w0 b u o t3 t4 lv se mi ho dom mo dow loc last added (x) a' w' ∧ a'.tmps.getD 168 undef = .bool (x % 60 == 0)) (fun _ _ _ => False)) a0 w := by
 obtain ⟨hf, hs3⟩ := hi
 simp [Tryz.f202, opsAt] at hops
 subst hops
 refine wp_line_fac 172 hf.sz 3 [(166, at_ x), (167, .int .i64 (x % 60)), (168, .bool (x % 60 == 0))] [(3, .pointer (some ⟨t3, 0, none⟩))] ⟨hf.g3, trivial⟩ (by kernel_rfl) (fun w' => St w0 b u o t3 t4 lv se mi ho dom mo dow loc w' (x + 62135596800)) (fun _ _ h hb => h.goes hb) hs3 ?_ ?_
 ·and_intros
  all_goals first | intro hne a w hs he | exact trivial
  all_goals
   obtain ⟨zts, k0, k1, k2, f0, f1, f2⟩ := hs.t
   obtain ⟨zsp, c0, c1, c2, c3, c4, c5, c6⟩ := hs.spec
   obtain ⟨zrr, r0, r1, r2, q0, q1, q2⟩ := hs.r
   simp [Region.reads, Region.Told, Region.told1, Op.operands, Call.operands, List.lookup] at he ⊢
   have hb := Below.refl w.heap.size w
   go_simp
  ·refine (second_s x hxa hxb _).mono ?_
   rintro r w4 ⟨rfl, hb4⟩
   exact ⟨_, rfl, rfl, hb4⟩
 ·intro a w hs hA
  have hfr := hf.keep hA.size hA.defers (fun t ht => hA.old t (by simp; omega))
  exact ⟨⟨hfr, hs⟩, hA.told.2.2.1⟩
theorem rg23 {added : Bool} {x : Int} (hxa : -62135596800 ≤ x) (hxb : x ≤ 900000000000) {a0 : Act} {w : World} (hi : Inv w0 b u o t3 t4 lv se mi ho dom mo dow loc last added x a0 w)
  (ops : Array Oper) (hops : opsAt 23 (Tryz.f202.body.getD .skip) = some ops) :
  (Code.region 23 ops false).wp Tryz.prog (Exit.then (fun a' w' => Inv w0 b u o t3 t4 lv se mi ho dom mo dow loc last added (x) a' w' ∧ a'.tmps.getD 85 undef = .bool (x % 86400 / 3600 != 0)) (fun _ _ _ => False)) a0 w := by
 obtain ⟨hf, hs3⟩ := hi
 simp [Tryz.f202, opsAt] at hops
 subst hops
 refine wp_line_fac 172 hf.sz 3 [(83, at_ x), (84, .int .i64 (x % 86400 / 3600)), (85, .bool (x % 86400 / 3600 != 0))] [(3, .pointer (some ⟨t3, 0, none⟩))] ⟨hf.g3, trivial⟩ (by kernel_rfl) (fun w' => St w0 b u o t3 t4 lv se mi ho dom mo dow loc w' (x + 62135596800)) (fun _ _ h hb => h.goes hb) hs3 ?_ ?_
 ·and_intros
  all_goals first | intro hne a w hs he | exact trivial
  all_goals
   obtain ⟨zts, k0, k1, k2, f0, f1, f2⟩ := hs.t
   obtain ⟨zsp, c0, c1, c2, c3, c4, c5, c6⟩ := hs.spec
   obtain ⟨zrr, r0, r1, r2, q0, q1, q2⟩ := hs.r
   simp [Region.reads, Region.Told, Region.told1, Op.operands, Call.operands, List.lookup] at he ⊢
   have hb := Below.refl w.heap.size w
   go_simp
  ·refine (hour_s x hxa hxb _).mono ?_
   rintro r w4 ⟨rfl, hb4⟩
   exact ⟨_, rfl, rfl, hb4⟩
 ·intro a w hs hA
  have hfr := hf.keep hA.size hA.defers (fun t ht => hA.old t (by simp; omega))
  exact ⟨⟨hfr, hs⟩, hA.told.2.2.1⟩
theorem rg11 {added : Bool} {x : Int}  {a0 : Act} {w : World} (hi : Inv w0 b u o t3 t4 lv se mi ho dom mo dow loc last added x a0 w)
  (ops : Array Oper) (hops : opsAt 11 (Tryz.f202.body.getD .skip) = some ops) :
  (Code.region 11 ops false).wp Tryz.prog (Exit.then (fun a' w' => a'.defers = [] ∧ a'.tmps.getD 4 undef = .pointer (some ⟨t4, 0, none⟩) ∧ Own3 w' t4 (.int .u64 0) (.int .i64 (0)) (.pointer none) ∧ Below w0.heap.size w0 w' ∧ a'.tmps.size = 172) (fun _ _ _ => False)) a0 w := by
 obtain ⟨hf, hs3⟩ := hi
 simp [Tryz.f202, opsAt] at hops
 subst hops
 refine wp_line_fac 172 hf.sz 1 [(43, tm 0 0 (.pointer none))] [(4, .pointer (some ⟨t4, 0, none⟩))] ⟨hf.g4, trivial⟩ (by kernel_rfl) (fun w' => St w0 b u o t3 t4 lv se mi ho dom mo dow loc w' (x + 62135596800)) (fun _ _ h hb => h.goes hb) hs3 ?_ ?_
 ·and_intros
  all_goals first | intro hne a w hs he | exact trivial
  all_goals first | exact absurd rfl hne | skip
  all_goals
   simp [Region.reads, Region.Told, Region.told1, Op.operands, Call.operands, List.lookup] at he ⊢
   have hb := Below.refl w.heap.size w
   go_simp
 ·intro a w hs hA
  have hfr := hf.keep hA.size hA.defers (fun t ht => hA.old t (by simp; omega))
  have e4 := (hA.old 4 (by kernel_rfl)).trans hf.g4
  have e43 := hA.told.1
  obtain ⟨zts, k0, k1, k2, f0, f1, f2⟩ := hs.t
  obtain ⟨zsp, c0, c1, c2, c3, c4, c5, c6⟩ := hs.spec
  obtain ⟨zrr, r0, r1, r2, q0, q1, q2⟩ := hs.r
  clear hA
  have hr := hs.r
  refine Oper.wp_mono (K := fun a' w' => a' = a ∧ w' = set3 w t4 (.int .u64 0) (.int .i64 (0)) (.pointer none)) (fun a' w' hq => ?_) ?_
  ·obtain ⟨rfl, rfl⟩ := hq
   exact ⟨hfr.df, hfr.g4, hr.set _ _ _, ((hs.below.setCell hs.h4 _).setCell hs.h4 _).setCell hs.h4 _, hfr.sz⟩
  ·simp only [at_, tm] at *
   clear hfr hf hr
   go_simp
theorem rg46 {added : Bool} {x : Int} (hxa : -62135596800 ≤ x) (hxb : x ≤ 900000000000) {a0 : Act} {w : World} (hi : Inv w0 b u o t3 t4 lv se mi ho dom mo dow loc last added x a0 w)
  (ops : Array Oper) (hops : opsAt 46 (Tryz.f202.body.getD .skip) = some ops) :
  (Code.region 46 ops false).wp Tryz.prog (Exit.then (fun a' w' => a'.defers = [] ∧ a'.tmps.getD 4 undef = .pointer (some ⟨t4, 0, none⟩) ∧ Own3 w' t4 (.int .u64 0) (.int .i64 (x + 62135596800)) (lv) ∧ Below w0.heap.size w0 w' ∧ a'.tmps.size = 172) (fun _ _ _ => False)) a0 w := by
 obtain ⟨hf, hs3⟩ := hi
 simp [Tryz.f202, opsAt] at hops
 subst hops
 obtain ⟨p, hp⟩ : ∃ p, lv = .pointer p := by rcases hs3.org with ⟨_, h⟩ | ⟨_, _, h⟩ <;> exact ⟨_, h⟩
 refine wp_line_fac 172 hf.sz 3 [(169, at_ x), (170, .pointer (some ⟨o, 0, none⟩)), (171, tm 0 (x + 62135596800) lv)] [(3, .pointer (some ⟨t3, 0, none⟩)), (4, .pointer (some ⟨t4, 0, none⟩)), (5, .pointer (some ⟨o, 0, none⟩))] ⟨hf.g3, hf.g4, hf.g5, trivial⟩ (by kernel_rfl) (fun w' => St w0 b u o t3 t4 lv se mi ho dom mo dow loc w' (x + 62135596800)) (fun _ _ h hb => h.goes hb) hs3 ?_ ?_
 ·and_intros
  all_goals first | intro hne a w hs he | exact trivial
  all_goals first | exact absurd rfl hne | skip
  all_goals
   obtain ⟨zts, k0, k1, k2, f0, f1, f2⟩ := hs.t
   obtain ⟨zsp, c0, c1, c2, c3, c4, c5, c6⟩ := hs.spec
   obtain ⟨zrr, r0, r1, r2, q0, q1, q2⟩ := hs.r
   simp [Region.reads, Region.Told, Region.told1, Op.operands, Call.operands, List.lookup] at he ⊢
   have hb := Below.refl w.heap.size w
   go_simp
  ·refine (in_org x _ hs.org).mono ?_
   rintro r w4 ⟨rfl, hb4⟩
   exact ⟨_, rfl, by rw [hp], hb4⟩
 ·intro a w hs hA
  have hfr := hf.keep hA.size hA.defers (fun t ht => hA.old t (by simp; omega))
  have e4 := (hA.old 4 (by kernel_rfl)).trans hf.g4
  have e171 := hA.told.2.2.1
  obtain ⟨zts, k0, k1, k2, f0, f1, f2⟩ := hs.t
  obtain ⟨zsp, c0, c1, c2, c3, c4, c5, c6⟩ := hs.spec
  obtain ⟨zrr, r0, r1, r2, q0, q1, q2⟩ := hs.r
  clear hA
  have hr := hs.r
  refine Oper.wp_mono (K := fun a' w' => a' = a ∧ w' = set3 w t4 (.int .u64 0) (.int .i64 (x + 62135596800)) (lv)) (fun a' w' hq => ?_) ?_
  ·obtain ⟨rfl, rfl⟩ := hq
   exact ⟨hfr.df, hfr.g4, hr.set _ _ _, ((hs.below.setCell hs.h4 _).setCell hs.h4 _).setCell hs.h4 _, hfr.sz⟩
  ·simp only [at_, tm] at *
   clear hfr hf hr
   go_simp
end
end Go.Proofs.YtcjdideliifkhaaGreatDoor
