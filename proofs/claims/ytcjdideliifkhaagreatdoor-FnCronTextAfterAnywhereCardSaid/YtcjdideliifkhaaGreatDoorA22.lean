import Derived.Test.YtcjdideliifkhaaGreatDoorA21
set_option maxRecDepth 100000
set_option maxHeartbeats 16000000
namespace Go.Proofs.YtcjdideliifkhaaGreatDoor
open Go.RowKit Go.Proofs.YtcjdideliifkhaaGreatDoorW.PrintWords
set_option linter.unusedVariables false
set_option linter.unusedSimpArgs false
section
variable {w0 : World} {u : Nat}
theorem zr2 {a0 : Act} {w : World} {v0 v1 v2 v3 : Value} {A1 : Option Addr} {n1 c1 : Nat} (hv : v0 = .slice A1 n1 c1) (hf : Kn 64 a0 [(0, v0), (1, v1), (2, v2), (3, v3), (9, .pointer (some ⟨u, 0, none⟩))])
  (ops : Array Oper) (hops : opsAt 2 (Tryz.f69.body.getD .skip) = some ops) :
  (Code.region 2 ops false).wp Tryz.prog (Exit.then (fun a' w' => w' = w ∧ Kn 64 a' [(0, v0), (1, v1), (2, v2), (3, v3), (9, .pointer (some ⟨u, 0, none⟩)), (16, v0), (17, .int .i64 (n1 : Int)), (18, .int .i64 ((0 : Nat) : Int))]) (fun _ _ _ => False)) a0 w := by
 simp [Tryz.f69, opsAt] at hops
 subst hops
 refine wp_region_seq 64 hf.1 3 (fun j v _ => match j with | 0 => v = v0 | 1 => v = .int .i64 (n1 : Int) | 2 => v = .int .i64 ((0 : Nat) : Int) | _ => True) (fun w' => w' = w) (fun w1 w' => w' = w1) (fun _ => rfl) (fun w1 w' h hb => ⟨hb.trans h, fun _ _ hv => hv⟩) (by kernel_rfl) (by kernel_rfl) (by kernel_rfl) (by decide) rfl ?_ ?_
 ·refine ⟨fun _ a w1 hs hA => ?_, fun _ a w1 hs hA => ?_, fun _ a w1 hs hA => ?_,  trivial⟩
  ·show Oper.wp _ _ _ _ _ _
   obtain rfl : w1 = w := hs
   have e0 := (hA.old' 0).trans hf.2.2.1
   clear hA
   go_simp
  ·show Oper.wp _ _ _ _ _ _
   obtain rfl : w1 = w := hs
   have e16 : a.tmps.getD 16 undef = v0 := hA.got' 0 16
   clear hA
   subst hv
   go_simp
  ·show Oper.wp _ _ _ _ _ _
   obtain rfl : w1 = w := hs
   clear hA
   skip
   go_simp
 ·intro a w1 hs hA
  obtain rfl : w1 = w := hs
  exact ⟨rfl, hA.size.trans hf.1, hA.defers.trans hf.2.1, (hA.old' 0).trans hf.2.2.1, (hA.old' 1).trans hf.2.2.2.1, (hA.old' 2).trans hf.2.2.2.2.1, (hA.old' 3).trans hf.2.2.2.2.2.1, (hA.old' 9).trans hf.2.2.2.2.2.2.1, hA.got' 0 16, hA.got' 1 17, hA.got' 2 18, trivial⟩
theorem zr3 {a0 : Act} {w : World} {v0 v1 v2 v3 : Value} {n1 i : Nat} (hf : Kn 64 a0 [(0, v0), (1, v1), (2, v2), (3, v3), (9, .pointer (some ⟨u, 0, none⟩)), (16, v0), (17, .int .i64 (n1 : Int)), (18, .int .i64 (i : Int))])
  (ops : Array Oper) (hops : opsAt 3 (Tryz.f69.body.getD .skip) = some ops) :
  (Code.region 3 ops false).wp Tryz.prog (Exit.then (fun a' w' => w' = w ∧ Kn 64 a' [(0, v0), (1, v1), (2, v2), (3, v3), (9, .pointer (some ⟨u, 0, none⟩)), (16, v0), (17, .int .i64 (n1 : Int)), (18, .int .i64 (i : Int)), (19, .bool (decide ((i : Int) < (n1 : Int))))]) (fun _ _ _ => False)) a0 w := by
 simp [Tryz.f69, opsAt] at hops
 subst hops
 refine wp_region_seq 64 hf.1 1 (fun j v _ => match j with | 0 => v = .bool (decide ((i : Int) < (n1 : Int))) | _ => True) (fun w' => w' = w) (fun w1 w' => w' = w1) (fun _ => rfl) (fun w1 w' h hb => ⟨hb.trans h, fun _ _ hv => hv⟩) (by kernel_rfl) (by kernel_rfl) (by kernel_rfl) (by decide) rfl ?_ ?_
 ·refine ⟨fun _ a w1 hs hA => ?_,  trivial⟩
  ·show Oper.wp _ _ _ _ _ _
   obtain rfl : w1 = w := hs
   have e18 := (hA.old' 18).trans hf.2.2.2.2.2.2.2.2.2.1
   have e17 := (hA.old' 17).trans hf.2.2.2.2.2.2.2.2.1
   clear hA
   go_simp
 ·intro a w1 hs hA
  obtain rfl : w1 = w := hs
  exact ⟨rfl, hA.size.trans hf.1, hA.defers.trans hf.2.1, (hA.old' 0).trans hf.2.2.1, (hA.old' 1).trans hf.2.2.2.1, (hA.old' 2).trans hf.2.2.2.2.1, (hA.old' 3).trans hf.2.2.2.2.2.1, (hA.old' 9).trans hf.2.2.2.2.2.2.1, (hA.old' 16).trans hf.2.2.2.2.2.2.2.1, (hA.old' 17).trans hf.2.2.2.2.2.2.2.2.1, (hA.old' 18).trans hf.2.2.2.2.2.2.2.2.2.1, hA.got' 0 19, trivial⟩
theorem zr4 {a0 : Act} {w : World} {v0 v1 v2 v3 : Value} {ib io n1 c1 i : Nat} {o : Int} (hi : i < n1) (hc : w.cell? ⟨ib, io + i, none⟩ = some (.int .i64 o)) (hf : Kn 64 a0 [(0, v0), (1, v1), (2, v2), (3, v3), (9, .pointer (some ⟨u, 0, none⟩)), (16, .slice (some ⟨ib, io, none⟩) n1 c1), (17, .int .i64 (n1 : Int)), (18, .int .i64 (i : Int))])
  (ops : Array Oper) (hops : opsAt 4 (Tryz.f69.body.getD .skip) = some ops) :
  (Code.region 4 ops false).wp Tryz.prog (Exit.then (fun a' w' => w' = w ∧ Kn 64 a' [(0, v0), (1, v1), (2, v2), (3, v3), (9, .pointer (some ⟨u, 0, none⟩)), (16, .slice (some ⟨ib, io, none⟩) n1 c1), (17, .int .i64 (n1 : Int)), (18, .int .i64 (i : Int)), (10, .int .i64 (i : Int)), (11, .int .i64 o)]) (fun _ _ _ => False)) a0 w := by
 simp [Tryz.f69, opsAt] at hops
 subst hops
 refine wp_region_seq 64 hf.1 5 (fun j v _ => match j with | 0 => v = .int .i64 (i : Int) | 1 => v = .pointer (some ⟨ib, io + i, none⟩) | 2 => v = .int .i64 o | 3 => v = .int .i64 (i : Int) | 4 => v = .int .i64 o | _ => True) (fun w' => w' = w) (fun w1 w' => w' = w1) (fun _ => rfl) (fun w1 w' h hb => ⟨hb.trans h, fun _ _ hv => hv⟩) (by kernel_rfl) (by kernel_rfl) (by kernel_rfl) (by decide) rfl ?_ ?_
 ·refine ⟨fun _ a w1 hs hA => ?_, fun _ a w1 hs hA => ?_, fun _ a w1 hs hA => ?_, fun _ a w1 hs hA => ?_, fun _ a w1 hs hA => ?_,  trivial⟩
  ·show Oper.wp _ _ _ _ _ _
   obtain rfl : w1 = w := hs
   have e18 := (hA.old' 18).trans hf.2.2.2.2.2.2.2.2.2.1
   clear hA
   go_simp
  ·show Oper.wp _ _ _ _ _ _
   obtain rfl : w1 = w := hs
   have e16 := (hA.old' 16).trans hf.2.2.2.2.2.2.2.1
   have e18 := (hA.old' 18).trans hf.2.2.2.2.2.2.2.2.2.1
   clear hA
   have j0 : (0 : Int) ≤ (i : Int) := by omega
   have j1 : (i : Int) < (n1 : Int) := by omega
   go_simp
  ·show Oper.wp _ _ _ _ _ _
   obtain rfl : w1 = w := hs
   have e21 : a.tmps.getD 21 undef = .pointer (some ⟨ib, io + i, none⟩) := hA.got' 1 21
   clear hA
   go_simp
  ·show Oper.wp _ _ _ _ _ _
   obtain rfl : w1 = w := hs
   have e20 : a.tmps.getD 20 undef = .int .i64 (i : Int) := hA.got' 0 20
   clear hA
   go_simp
  ·show Oper.wp _ _ _ _ _ _
   obtain rfl : w1 = w := hs
   have e22 : a.tmps.getD 22 undef = .int .i64 o := hA.got' 2 22
   clear hA
   go_simp
 ·intro a w1 hs hA
  obtain rfl : w1 = w := hs
  exact ⟨rfl, hA.size.trans hf.1, hA.defers.trans hf.2.1, (hA.old' 0).trans hf.2.2.1, (hA.old' 1).trans hf.2.2.2.1, (hA.old' 2).trans hf.2.2.2.2.1, (hA.old' 3).trans hf.2.2.2.2.2.1, (hA.old' 9).trans hf.2.2.2.2.2.2.1, (hA.old' 16).trans hf.2.2.2.2.2.2.2.1, (hA.old' 17).trans hf.2.2.2.2.2.2.2.2.1, (hA.old' 18).trans hf.2.2.2.2.2.2.2.2.2.1, hA.got' 3 10, hA.got' 4 11, trivial⟩
theorem zr6 {a0 : Act} {w : World} {v0 v1 v2 v3 : Value} {n1 i : Nat} (hi : i < 100000) (hf : Kn 64 a0 [(0, v0), (1, v1), (2, v2), (3, v3), (9, .pointer (some ⟨u, 0, none⟩)), (16, v0), (17, .int .i64 (n1 : Int)), (18, .int .i64 (i : Int))])
  (ops : Array Oper) (hops : opsAt 6 (Tryz.f69.body.getD .skip) = some ops) :
  (Code.region 6 ops false).wp Tryz.prog (Exit.then (fun a' w' => w' = w ∧ Kn 64 a' [(0, v0), (1, v1), (2, v2), (3, v3), (9, .pointer (some ⟨u, 0, none⟩)), (16, v0), (17, .int .i64 (n1 : Int)), (18, .int .i64 ((i + 1 : Nat) : Int))]) (fun _ _ _ => False)) a0 w := by
 simp [Tryz.f69, opsAt] at hops
 subst hops
 refine wp_region_seq 64 hf.1 2 (fun j v _ => match j with | 0 => v = .int .i64 ((i + 1 : Nat) : Int) | 1 => v = .int .i64 ((i + 1 : Nat) : Int) | _ => True) (fun w' => w' = w) (fun w1 w' => w' = w1) (fun _ => rfl) (fun w1 w' h hb => ⟨hb.trans h, fun _ _ hv => hv⟩) (by kernel_rfl) (by kernel_rfl) (by kernel_rfl) (by decide) rfl ?_ ?_
 ·refine ⟨fun _ a w1 hs hA => ?_, fun _ a w1 hs hA => ?_,  trivial⟩
  ·show Oper.wp _ _ _ _ _ _
   obtain rfl : w1 = w := hs
   have e18 := (hA.old' 18).trans hf.2.2.2.2.2.2.2.2.2.1
   clear hA
   have hwr : IntKind.i64.wrap ((i : Int) + 1) = (i : Int) + 1 := wraps_i64 _ (by omega) (by omega)
   go_simp
  ·show Oper.wp _ _ _ _ _ _
   obtain rfl : w1 = w := hs
   have e38 : a.tmps.getD 38 undef = .int .i64 ((i + 1 : Nat) : Int) := hA.got' 0 38
   clear hA
   go_simp
 ·intro a w1 hs hA
  obtain rfl : w1 = w := hs
  exact ⟨rfl, hA.size.trans hf.1, hA.defers.trans hf.2.1, (hA.old' 0).trans hf.2.2.1, (hA.old' 1).trans hf.2.2.2.1, (hA.old' 2).trans hf.2.2.2.2.1, (hA.old' 3).trans hf.2.2.2.2.2.1, (hA.old' 9).trans hf.2.2.2.2.2.2.1, (hA.old' 16).trans hf.2.2.2.2.2.2.2.1, (hA.old' 17).trans hf.2.2.2.2.2.2.2.2.1, hA.got' 1 18, trivial⟩
theorem zr7 {a0 : Act} {w : World} {v0 v1 v2 v3 : Value} {A1 : Option Addr} {n1 c1 : Nat} (hv : v2 = .slice A1 n1 c1) (hf : Kn 64 a0 [(0, v0), (1, v1), (2, v2), (3, v3), (9, .pointer (some ⟨u, 0, none⟩))])
  (ops : Array Oper) (hops : opsAt 7 (Tryz.f69.body.getD .skip) = some ops) :
  (Code.region 7 ops false).wp Tryz.prog (Exit.then (fun a' w' => w' = w ∧ Kn 64 a' [(0, v0), (1, v1), (2, v2), (3, v3), (9, .pointer (some ⟨u, 0, none⟩)), (39, v2), (40, .int .i64 (n1 : Int)), (41, .int .i64 ((0 : Nat) : Int))]) (fun _ _ _ => False)) a0 w := by
 simp [Tryz.f69, opsAt] at hops
 subst hops
 refine wp_region_seq 64 hf.1 3 (fun j v _ => match j with | 0 => v = v2 | 1 => v = .int .i64 (n1 : Int) | 2 => v = .int .i64 ((0 : Nat) : Int) | _ => True) (fun w' => w' = w) (fun w1 w' => w' = w1) (fun _ => rfl) (fun w1 w' h hb => ⟨hb.trans h, fun _ _ hv => hv⟩) (by kernel_rfl) (by kernel_rfl) (by kernel_rfl) (by decide) rfl ?_ ?_
 ·refine ⟨fun _ a w1 hs hA => ?_, fun _ a w1 hs hA => ?_, fun _ a w1 hs hA => ?_,  trivial⟩
  ·show Oper.wp _ _ _ _ _ _
   obtain rfl : w1 = w := hs
   have e2 := (hA.old' 2).trans hf.2.2.2.2.1
   clear hA
   go_simp
  ·show Oper.wp _ _ _ _ _ _
   obtain rfl : w1 = w := hs
   have e39 : a.tmps.getD 39 undef = v2 := hA.got' 0 39
   clear hA
   subst hv
   go_simp
  ·show Oper.wp _ _ _ _ _ _
   obtain rfl : w1 = w := hs
   clear hA
   go_simp
 ·intro a w1 hs hA
  obtain rfl : w1 = w := hs
  exact ⟨rfl, hA.size.trans hf.1, hA.defers.trans hf.2.1, (hA.old' 0).trans hf.2.2.1, (hA.old' 1).trans hf.2.2.2.1, (hA.old' 2).trans hf.2.2.2.2.1, (hA.old' 3).trans hf.2.2.2.2.2.1, (hA.old' 9).trans hf.2.2.2.2.2.2.1, hA.got' 0 39, hA.got' 1 40, hA.got' 2 41, trivial⟩
theorem zr8 {a0 : Act} {w : World} {v0 v1 v2 v3 : Value} {n1 i : Nat} (hf : Kn 64 a0 [(0, v0), (1, v1), (2, v2), (3, v3), (9, .pointer (some ⟨u, 0, none⟩)), (39, v2), (40, .int .i64 (n1 : Int)), (41, .int .i64 (i : Int))])
  (ops : Array Oper) (hops : opsAt 8 (Tryz.f69.body.getD .skip) = some ops) :
  (Code.region 8 ops false).wp Tryz.prog (Exit.then (fun a' w' => w' = w ∧ Kn 64 a' [(0, v0), (1, v1), (2, v2), (3, v3), (9, .pointer (some ⟨u, 0, none⟩)), (39, v2), (40, .int .i64 (n1 : Int)), (41, .int .i64 (i : Int)), (42, .bool (decide ((i : Int) < (n1 : Int))))]) (fun _ _ _ => False)) a0 w := by
 simp [Tryz.f69, opsAt] at hops
 subst hops
 refine wp_region_seq 64 hf.1 1 (fun j v _ => match j with | 0 => v = .bool (decide ((i : Int) < (n1 : Int))) | _ => True) (fun w' => w' = w) (fun w1 w' => w' = w1) (fun _ => rfl) (fun w1 w' h hb => ⟨hb.trans h, fun _ _ hv => hv⟩) (by kernel_rfl) (by kernel_rfl) (by kernel_rfl) (by decide) rfl ?_ ?_
 ·refine ⟨fun _ a w1 hs hA => ?_,  trivial⟩
  ·show Oper.wp _ _ _ _ _ _
   obtain rfl : w1 = w := hs
   have e41 := (hA.old' 41).trans hf.2.2.2.2.2.2.2.2.2.1
   have e40 := (hA.old' 40).trans hf.2.2.2.2.2.2.2.2.1
   clear hA
   go_simp
 ·intro a w1 hs hA
  obtain rfl : w1 = w := hs
  exact ⟨rfl, hA.size.trans hf.1, hA.defers.trans hf.2.1, (hA.old' 0).trans hf.2.2.1, (hA.old' 1).trans hf.2.2.2.1, (hA.old' 2).trans hf.2.2.2.2.1, (hA.old' 3).trans hf.2.2.2.2.2.1, (hA.old' 9).trans hf.2.2.2.2.2.2.1, (hA.old' 39).trans hf.2.2.2.2.2.2.2.1, (hA.old' 40).trans hf.2.2.2.2.2.2.2.2.1, (hA.old' 41).trans hf.2.2.2.2.2.2.2.2.2.1, hA.got' 0 42, trivial⟩
theorem zr9 {a0 : Act} {w : World} {v0 v1 v2 v3 : Value} {ib io n1 c1 i : Nat} {o : Int} (hi : i < n1) (hc : w.cell? ⟨ib, io + i, none⟩ = some (.int .i64 o)) (hf : Kn 64 a0 [(0, v0), (1, v1), (2, v2), (3, v3), (9, .pointer (some ⟨u, 0, none⟩)), (39, .slice (some ⟨ib, io, none⟩) n1 c1), (40, .int .i64 (n1 : Int)), (41, .int .i64 (i : Int))])
  (ops : Array Oper) (hops : opsAt 9 (Tryz.f69.body.getD .skip) = some ops) :
  (Code.region 9 ops false).wp Tryz.prog (Exit.then (fun a' w' => w' = w ∧ Kn 64 a' [(0, v0), (1, v1), (2, v2), (3, v3), (9, .pointer (some ⟨u, 0, none⟩)), (39, .slice (some ⟨ib, io, none⟩) n1 c1), (40, .int .i64 (n1 : Int)), (41, .int .i64 (i : Int)), (12, .int .i64 (i : Int)), (13, .int .i64 o)]) (fun _ _ _ => False)) a0 w := by
 simp [Tryz.f69, opsAt] at hops
 subst hops
 refine wp_region_seq 64 hf.1 5 (fun j v _ => match j with | 0 => v = .int .i64 (i : Int) | 1 => v = .pointer (some ⟨ib, io + i, none⟩) | 2 => v = .int .i64 o | 3 => v = .int .i64 (i : Int) | 4 => v = .int .i64 o | _ => True) (fun w' => w' = w) (fun w1 w' => w' = w1) (fun _ => rfl) (fun w1 w' h hb => ⟨hb.trans h, fun _ _ hv => hv⟩) (by kernel_rfl) (by kernel_rfl) (by kernel_rfl) (by decide) rfl ?_ ?_
 ·refine ⟨fun _ a w1 hs hA => ?_, fun _ a w1 hs hA => ?_, fun _ a w1 hs hA => ?_, fun _ a w1 hs hA => ?_, fun _ a w1 hs hA => ?_,  trivial⟩
  ·show Oper.wp _ _ _ _ _ _
   obtain rfl : w1 = w := hs
   have e41 := (hA.old' 41).trans hf.2.2.2.2.2.2.2.2.2.1
   clear hA
   go_simp
  ·show Oper.wp _ _ _ _ _ _
   obtain rfl : w1 = w := hs
   have e39 := (hA.old' 39).trans hf.2.2.2.2.2.2.2.1
   have e41 := (hA.old' 41).trans hf.2.2.2.2.2.2.2.2.2.1
   clear hA
   have j0 : (0 : Int) ≤ (i : Int) := by omega
   have j1 : (i : Int) < (n1 : Int) := by omega
   go_simp
  ·show Oper.wp _ _ _ _ _ _
   obtain rfl : w1 = w := hs
   have e44 : a.tmps.getD 44 undef = .pointer (some ⟨ib, io + i, none⟩) := hA.got' 1 44
   clear hA
   go_simp
  ·show Oper.wp _ _ _ _ _ _
   obtain rfl : w1 = w := hs
   have e43 : a.tmps.getD 43 undef = .int .i64 (i : Int) := hA.got' 0 43
   clear hA
   go_simp
  ·show Oper.wp _ _ _ _ _ _
   obtain rfl : w1 = w := hs
   have e45 : a.tmps.getD 45 undef = .int .i64 o := hA.got' 2 45
   clear hA
   go_simp
 ·intro a w1 hs hA
  obtain rfl : w1 = w := hs
  exact ⟨rfl, hA.size.trans hf.1, hA.defers.trans hf.2.1, (hA.old' 0).trans hf.2.2.1, (hA.old' 1).trans hf.2.2.2.1, (hA.old' 2).trans hf.2.2.2.2.1, (hA.old' 3).trans hf.2.2.2.2.2.1, (hA.old' 9).trans hf.2.2.2.2.2.2.1, (hA.old' 39).trans hf.2.2.2.2.2.2.2.1, (hA.old' 40).trans hf.2.2.2.2.2.2.2.2.1, (hA.old' 41).trans hf.2.2.2.2.2.2.2.2.2.1, hA.got' 3 12, hA.got' 4 13, trivial⟩
theorem zr11 {a0 : Act} {w : World} {v0 v1 v2 v3 : Value} {n1 i : Nat} (hi : i < 100000) (hf : Kn 64 a0 [(0, v0), (1, v1), (2, v2), (3, v3), (9, .pointer (some ⟨u, 0, none⟩)), (39, v2), (40, .int .i64 (n1 : Int)), (41, .int .i64 (i : Int))])
  (ops : Array Oper) (hops : opsAt 11 (Tryz.f69.body.getD .skip) = some ops) :
  (Code.region 11 ops false).wp Tryz.prog (Exit.then (fun a' w' => w' = w ∧ Kn 64 a' [(0, v0), (1, v1), (2, v2), (3, v3), (9, .pointer (some ⟨u, 0, none⟩)), (39, v2), (40, .int .i64 (n1 : Int)), (41, .int .i64 ((i + 1 : Nat) : Int))]) (fun _ _ _ => False)) a0 w := by
 simp [Tryz.f69, opsAt] at hops
 subst hops
 refine wp_region_seq 64 hf.1 2 (fun j v _ => match j with | 0 => v = .int .i64 ((i + 1 : Nat) : Int) | 1 => v = .int .i64 ((i + 1 : Nat) : Int) | _ => True) (fun w' => w' = w) (fun w1 w' => w' = w1) (fun _ => rfl) (fun w1 w' h hb => ⟨hb.trans h, fun _ _ hv => hv⟩) (by kernel_rfl) (by kernel_rfl) (by kernel_rfl) (by decide) rfl ?_ ?_
 ·refine ⟨fun _ a w1 hs hA => ?_, fun _ a w1 hs hA => ?_,  trivial⟩
  ·show Oper.wp _ _ _ _ _ _
   obtain rfl : w1 = w := hs
   have e41 := (hA.old' 41).trans hf.2.2.2.2.2.2.2.2.2.1
   clear hA
   have hwr : IntKind.i64.wrap ((i : Int) + 1) = (i : Int) + 1 := wraps_i64 _ (by omega) (by omega)
   go_simp
  ·show Oper.wp _ _ _ _ _ _
   obtain rfl : w1 = w := hs
   have e62 : a.tmps.getD 62 undef = .int .i64 ((i + 1 : Nat) : Int) := hA.got' 0 62
   clear hA
   go_simp
 ·intro a w1 hs hA
  obtain rfl : w1 = w := hs
  exact ⟨rfl, hA.size.trans hf.1, hA.defers.trans hf.2.1, (hA.old' 0).trans hf.2.2.1, (hA.old' 1).trans hf.2.2.2.1, (hA.old' 2).trans hf.2.2.2.2.1, (hA.old' 3).trans hf.2.2.2.2.2.1, (hA.old' 9).trans hf.2.2.2.2.2.2.1, (hA.old' 39).trans hf.2.2.2.2.2.2.2.1, (hA.old' 40).trans hf.2.2.2.2.2.2.2.2.1, hA.got' 1 41, trivial⟩
theorem zr12 {a0 : Act} {w : World}  (hf : Kn 64 a0 [(9, .pointer (some ⟨u, 0, none⟩))])
  (ops : Array Oper) (hops : opsAt 12 (Tryz.f69.body.getD .skip) = some ops) :
  (Code.region 12 ops false).wp Tryz.prog (Exit.then (fun a' w' => w' = w ∧ Kn 64 a' [(8, .pointer (some ⟨u, 0, none⟩))]) (fun _ _ _ => False)) a0 w := by
 simp [Tryz.f69, opsAt] at hops
 subst hops
 refine wp_region_seq 64 hf.1 2 (fun j v _ => match j with | 0 => v = .pointer (some ⟨u, 0, none⟩) | 1 => v = .pointer (some ⟨u, 0, none⟩) | _ => True) (fun w' => w' = w) (fun w1 w' => w' = w1) (fun _ => rfl) (fun w1 w' h hb => ⟨hb.trans h, fun _ _ hv => hv⟩) (by kernel_rfl) (by kernel_rfl) (by kernel_rfl) (by decide) rfl ?_ ?_
 ·refine ⟨fun _ a w1 hs hA => ?_, fun _ a w1 hs hA => ?_,  trivial⟩
  ·show Oper.wp _ _ _ _ _ _
   obtain rfl : w1 = w := hs
   have e9 := (hA.old' 9).trans hf.2.2.1
   clear hA
   go_simp
  ·show Oper.wp _ _ _ _ _ _
   obtain rfl : w1 = w := hs
   have e63 : a.tmps.getD 63 undef = .pointer (some ⟨u, 0, none⟩) := hA.got' 0 63
   clear hA
   go_simp
 ·intro a w1 hs hA
  obtain rfl : w1 = w := hs
  exact ⟨rfl, hA.size.trans hf.1, hA.defers.trans hf.2.1, hA.got' 1 8, trivial⟩
end
open Go.RowKit
def afterLabel : Code → Option Code
 | .seq (.label _) x => some x
 | .seq a b => match afterLabel a with | some o => some o | none => afterLabel b
 | .scope c => afterLabel c
 | _ => none
def Told (t4 : Nat) (lv : Value) (w : World) : Option Int → Prop
 | some v => Own3 w t4 (.int .u64 0) (.int .i64 (v + 62135596800)) lv
 | none => Own3 w t4 (.int .u64 0) (.int .i64 0) (.pointer none)
def PassQ (w0 : World) (b u o t3 t4 : Nat) (lv : Value) (se mi ho dom mo dow : Int) (loc : Option Addr) (first last x0 : Int) : Exit → Act → World → Prop
 | .ret, a, w => a.defers = [] ∧ a.tmps.getD 4 undef = .pointer (some ⟨t4, 0, none⟩) ∧ Below w0.heap.size w0 w ∧ ∃ v, Cal.Ans (fOf se mi ho dom mo dow) first last v ∧ Told t4 lv w v
 | .goto 0, a, w => ∃ x : Int, Inv w0 b u o t3 t4 lv se mi ho dom mo dow loc last true x a w ∧ Pl (fOf se mi ho dom mo dow) first last true x ∧ x0 < x
 | _, _, _ => False
section
variable {w0 : World} {b u o t3 t4 : Nat} {lv : Value} {se mi ho dom mo dow : Int} {loc : Option Addr} {last first x0 : Int}
theorem loop_then {c rest : Code} {E : Int → Prop} {a : Act} {w : World}
  (h : c.wp Tryz.prog (LoopQ w0 b u o t3 t4 lv se mi ho dom mo dow loc first last x0 E) a w)
  (h2 : ∀ a w, (∃ (added : Bool) (x : Int), Inv w0 b u o t3 t4 lv se mi ho dom mo dow loc last added x a w ∧ Pl (fOf se mi ho dom mo dow) first last added x ∧ x0 ≤ x ∧ Cal.Y (x / 86400) ≤ last ∧ E x) → rest.wp Tryz.prog (PassQ w0 b u o t3 t4 lv se mi ho dom mo dow loc first last x0) a w) :
  (Code.seq c rest).wp Tryz.prog (PassQ w0 b u o t3 t4 lv se mi ho dom mo dow loc first last x0) a w := by
 refine wp_seq (wp_mono h ?_)
 intro e a1 w1 hq
 cases e with
 | normal => exact h2 _ _ hq
 | goto l =>
  cases l with
  | zero => exact hq
  | succ l => exact False.elim hq
 | exit l => exact False.elim hq
 | ret => exact False.elim hq
 | panic c => exact False.elim hq
 | outgrown => exact False.elim hq
theorem pass_c (hlast : last ≤ 27390) (hfirst : first ≤ x0) (X : Code) (hX : afterLabel (Tryz.f202.body.getD .skip) = some X) {a : Act} {w : World} {added : Bool}
  (hi : Inv w0 b u o t3 t4 lv se mi ho dom mo dow loc last added x0 a w) (hp : Pl (fOf se mi ho dom mo dow) first last added x0) :
  X.wp Tryz.prog (PassQ w0 b u o t3 t4 lv se mi ho dom mo dow loc first last x0) a w := by
 simp [Tryz.f202, afterLabel] at hX
 subst hX
 have hxa : -62135596800 ≤ x0 := by have := hp.lo; have := hp.from_; omega
 have hxb : x0 ≤ 900000000000 := hp.hi
 refine wp_seq (seq_of (rg10 hxa hxb hi _ (by kernel_rfl)) fun a1 w1 h1 => ?_)
 obtain ⟨hi1, ht1⟩ := h1
 by_cases hy : last < Cal.Y (x0 / 86400)
 ·rw [decide_eq_true hy] at ht1
  refine wp_cond_true ht1 (seq_of (rg11 hi1 _ (by kernel_rfl)) fun a2 w2 h2 => wp_ret ?_)
  exact ⟨h2.1, h2.2.1, h2.2.2.2.1, none, Cal.Ans.none_of hp.quiet hy, h2.2.2.1⟩
 ·rw [decide_eq_false hy] at ht1
  refine wp_cond_false ht1 (wp_skip ?_)
  refine loop_then (loop1 hlast _ (by kernel_rfl) ⟨added, x0, hi1, hp, Int.le_refl _, by omega, trivial⟩) fun a w h => ?_
  obtain ⟨ad, x, h⟩ := h
  refine loop_then (loop2 hlast _ (by kernel_rfl) ⟨ad, x, h.1, h.2.1, h.2.2.1, h.2.2.2.1, h.2.2.2.2.2⟩) fun a w h => ?_
  refine loop_then (loop3 hlast _ (by kernel_rfl) h) fun a w h => ?_
  refine loop_then (loop4 hlast _ (by kernel_rfl) h) fun a w h => ?_
  refine loop_then (loop5 hlast _ (by kernel_rfl) h) fun a w h => ?_
  obtain ⟨ad, x, hi, hp, hx, hy, hE⟩ := h
  refine seq_of (rg46 (by omega) hp.hi hi _ (by kernel_rfl)) fun a2 w2 h2 => wp_ret ?_
  refine ⟨h2.1, h2.2.1, h2.2.2.2.1, some x, ⟨hp.from_, ?_, hy, hp.quiet⟩, h2.2.2.1⟩
  obtain ⟨⟨⟨⟨hmo, hd⟩, hho⟩, hmi⟩, hse⟩ := hE
  unfold Cal.fits
  rw [show (fOf se mi ho dom mo dow).mo (Cal.M (x / 86400)) = hasBit mo (Cal.M (x / 86400)) from rfl, show (fOf se mi ho dom mo dow).ho (x % 86400 / 3600) = hasBit ho (x % 86400 / 3600) from rfl,
   show (fOf se mi ho dom mo dow).mi (x % 3600 / 60) = hasBit mi (x % 3600 / 60) from rfl, show (fOf se mi ho dom mo dow).se (x % 60) = hasBit se (x % 60) from rfl, hmo, hd, hho, hmi, hse]
  rfl
def JJ (w0 : World) (b t3 t4 : Nat) (lv : Value) (se mi ho dom mo dow : Int) (loc : Option Addr) (first last : Int) (a : Act) (w : World) : Prop :=
 ∃ (u o : Nat) (added : Bool) (x : Int), Inv w0 b u o t3 t4 lv se mi ho dom mo dow loc last added x a w ∧ Pl (fOf se mi ho dom mo dow) first last added x
theorem from_label (hlast : last ≤ 27390) (X : Code) (hX : afterLabel (Tryz.f202.body.getD .skip) = some X) {c : Code} {a : Act} {w : World} {Q : Exit → Act → World → Prop}
  (hc : findLabel c 0 = some (.seq .skip X))
  (hQ : ∀ u o x0 a w, PassQ w0 b u o t3 t4 lv se mi ho dom mo dow loc first last x0 .ret a w → Q .ret a w)
  (hfirst : (∀ a w, (∃ u o, Inv w0 b u o t3 t4 lv se mi ho dom mo dow loc last false first a w) → Pl (fOf se mi ho dom mo dow) first last false first → X.wp Tryz.prog (Exit.jump 0 (JJ w0 b t3 t4 lv se mi ho dom mo dow loc first last) Q) a w) →
   c.wp Tryz.prog (Exit.jump 0 (JJ w0 b t3 t4 lv se mi ho dom mo dow loc first last) Q) a w) :
  (Code.scope c).wp Tryz.prog Q a w := by
 refine wp_scope_jumps 0 (JJ w0 b t3 t4 lv se mi ho dom mo dow loc first last)
  (fun _ w => (962135596800 - secOf t3 w).toNat) hc (hfirst ?_) ?_
 ·rintro a w ⟨u, o, hi⟩ hp
  refine wp_mono (pass_c hlast (Int.le_refl _) X hX hi hp) ?_
  intro e a w hq
  cases e with
  | goto l =>
   cases l with
   | zero => obtain ⟨x, h1, h2, h3⟩ := hq; exact ⟨rfl, u, o, true, x, h1, h2⟩
   | succ l => exact False.elim hq
  | ret => exact hQ _ _ _ _ _ hq
  | normal => exact False.elim hq
  | exit l => exact False.elim hq
  | panic c => exact False.elim hq
  | outgrown => exact False.elim hq
 ·rintro a w ⟨u, o, added, x, hi, hp⟩
  refine wp_seq (wp_skip ?_)
  refine wp_mono (pass_c hlast hp.from_ X hX hi hp) ?_
  intro e a1 w1 hq
  cases e with
  | goto l =>
   cases l with
   | zero =>
    obtain ⟨y, h1, h2, h3⟩ := hq
    refine ⟨rfl, ⟨u, o, true, y, h1, h2⟩, ?_⟩
    rw [secOf_eq h1.2.t, secOf_eq hi.2.t]
    have := h2.hi
    omega
   | succ l => exact False.elim hq
  | ret => exact hQ _ _ _ _ _ hq
  | normal => exact False.elim hq
  | exit l => exact False.elim hq
  | panic c => exact False.elim hq
  | outgrown => exact False.elim hq
theorem last_of {P : Program} {R : Code} {Q : Exit → Act → World → Prop} {K : Act → World → Prop} {a : Act} {w : World} (h : R.wp P (Exit.then K (fun _ _ _ => False)) a w) (h2 : ∀ a w, K a w → Q .normal a w) : R.wp P Q a w :=
 wp_mono h (fun e a w hq => by cases e <;> first | exact False.elim hq | exact h2 _ _ hq)
end
def NextQ (f : Cal.F) (s : Int) (lv : Value) (w : World) (r : Ending) (w' : World) : Prop :=
 (∃ v : Option Int, Cal.Ans f (s + 1) (Cal.Y ((s + 1) / 86400) + 5) v ∧ r = .returned (match v with | some v => tm 0 (v + 62135596800) lv | none => tm 0 0 (.pointer none))) ∧ Below w.heap.size w w'
def scopeAt : Code → Option Code
 | .seq a b => match scopeAt a with | some o => some o | none => scopeAt b
 | .scope c => some c
 | _ => none
section
variable {w0 : World} {b t3 t4 : Nat} {lv : Value} {se mi ho dom mo dow : Int} {loc : Option Addr} {ns s : Int}
theorem mid_c {X : Code} {Q : Exit → Act → World → Prop} {u o : Nat} (h0 : 0 ≤ ns) (h1 : ns < 1000000000) (hs0 : -62135596800 ≤ s) (hs1 : s ≤ 800000000000)
  (hp : ∀ a w, (∃ u o, Inv w0 b u o t3 t4 lv se mi ho dom mo dow loc (Cal.Y ((s + 1) / 86400) + 5) false (s + 1) a w) → Pl (fOf se mi ho dom mo dow) (s + 1) (Cal.Y ((s + 1) / 86400) + 5) false (s + 1) → X.wp Tryz.prog Q a w)
  {ops7 ops8 ops9 : Array Oper} (o7 : opsAt 7 (Tryz.f202.body.getD .skip) = some ops7) (o8 : opsAt 8 (Tryz.f202.body.getD .skip) = some ops8) (o9 : opsAt 9 (Tryz.f202.body.getD .skip) = some ops9)
  {a : Act} {w : World} (hk : Kn 172 a [(0, .pointer (some ⟨b, 0, none⟩)), (3, .pointer (some ⟨t3, 0, none⟩)), (4, .pointer (some ⟨t4, 0, none⟩)), (5, .pointer (some ⟨o, 0, none⟩)), (6, .pointer (some ⟨u, 0, none⟩))])
  (hs : Pre w0 b t3 t4 se mi ho dom mo dow loc ns (s + 62135596800) (.pointer none) w ∧ OrgT t3 lv w o ∧ UtcT t3 w u) :
  (Code.seq (.region 7 ops7 true) (.seq (.region 8 ops8 false) (.seq (.region 9 ops9 false) (.seq (.label 0) X)))).wp Tryz.prog Q a w := by
 refine seq_of (rg7 h0 h1 (by omega) (by omega) hk hs _ o7) fun a1 w1 h => ?_
 rw [show s + 62135596800 + 1 = s + 1 + 62135596800 by omega] at h
 refine seq_of (rg8 h.1 h.2 _ o8) fun a2 w2 h => ?_
 refine seq_of (rg9 (by omega) (by omega) h.1 h.2 _ o9) fun a3 w3 h => wp_seq (wp_label ?_)
 obtain ⟨⟨k1, k2, k3, k4, k5, k6, k7, k8, k9, -⟩, hpre, ho, hu⟩ := h
 refine hp _ _ ⟨u, o, ⟨k1, k2, k3, k4, k5, k6, k7, k8, k9⟩, hpre.spec, hu.1, ho.1, hpre.t, hpre.r, hpre.below, hpre.b0, hpre.h3, hpre.h4, hpre.n34, hu.2, ho.2⟩ ⟨Int.le_refl _, by omega, by omega, Cal.Quiet.nil _ (Int.le_refl _), fun h => by cases h⟩
theorem scope_c (c : Code) (hc : scopeAt (Tryz.f202.body.getD .skip) = some c) (h0 : 0 ≤ ns) (h1 : ns < 1000000000) (hs0 : -62135596800 ≤ s) (hs1 : s ≤ 800000000000)
  {a : Act} {w : World} (hk : Kn 172 a [(0, .pointer (some ⟨b, 0, none⟩)), (3, .pointer (some ⟨t3, 0, none⟩)), (4, .pointer (some ⟨t4, 0, none⟩))])
  (hpre : Pre w0 b t3 t4 se mi ho dom mo dow loc ns (s + 62135596800) lv w) (hpl : Place t3 loc w lv)
  (hl : (loc = none ∧ lv = .pointer none) ∨ ∃ u, loc = some ⟨u, 0, none⟩) :
  (Code.scope c).wp Tryz.prog (bodyPost Tryz.prog Tryz.f202 (NextQ (fOf se mi ho dom mo dow) s lv w0)) a w := by
 have hlast : Cal.Y ((s + 1) / 86400) + 5 ≤ 27390 := by have := year_least (n := (s + 1) / 86400) (by omega); omega
 simp [Tryz.f202, scopeAt] at hc
 subst hc
 refine from_label (w0 := w0) (b := b) (t3 := t3) (t4 := t4) (lv := lv) (se := se) (mi := mi) (ho := ho) (dom := dom) (mo := mo) (dow := dow) (loc := loc) (first := s + 1) hlast _ (by kernel_rfl) rfl ?_ ?_
 ·rintro u o x0 a w ⟨q1, q2, q3, v, hv, ht⟩
  simp only [Array.getD_eq_getD_getElem?] at q2
  cases v with
  | none =>
   obtain ⟨-, r0, r1, r2, -, -, -⟩ := ht
   exact ⟨q1, tm 0 0 (.pointer none), by simp [results, Tryz.f202, go_sem, q2, r0, r1, r2], ⟨none, hv, rfl⟩, q3⟩
  | some v =>
   obtain ⟨p, rfl⟩ : ∃ p, lv = .pointer p := hpl.ptr
   obtain ⟨-, r0, r1, r2, -, -, -⟩ := ht
   exact ⟨q1, tm 0 (v + 62135596800) (.pointer p), by simp [results, Tryz.f202, go_sem, q2, r0, r1, r2], ⟨some v, hv, rfl⟩, q3⟩
 ·intro hp
  refine seq_of (rg1 hk ⟨hpre, hpl⟩ _ (by kernel_rfl)) fun a1 w1 h => ?_
  obtain ⟨o, hk1, ho, hpre1, hpl1⟩ := h
  refine seq_of (rg2 hk1 ⟨hpre1, hpl1, ho⟩ _ (by kernel_rfl)) fun a2 w2 h => ?_
  obtain ⟨hk2, hs2⟩ := h
  rcases hl with ⟨rfl, rfl⟩ | ⟨u, rfl⟩
  ·refine wp_seq (seq_of (rg3n hk2 hs2 _ (by kernel_rfl)) fun a3 w3 h => ?_)
   obtain ⟨⟨z1, z2, z3, z4, z5, z6, z7, z8, -⟩, hpre3, hpl3, ho3⟩ := h
   refine wp_cond_true z8 (last_of (rg4 ⟨z1, z2, z3, z4, z5, z6, trivial⟩ ⟨hpre3, ho3⟩ _ (by kernel_rfl)) fun a4 w4 h => ?_)
   obtain ⟨u, hk4, hpre4, ho4, hu4⟩ := h
   refine wp_seq (seq_of (rg5n hk4 ⟨hpre4, ho4, hu4⟩ _ (by kernel_rfl)) fun a5 w5 h => ?_)
   obtain ⟨⟨z1, z2, z3, z4, z5, z6, z7, z8, -⟩, hs5⟩ := h
   refine wp_cond_false z8 (wp_skip ?_)
   exact mid_c h0 h1 hs0 hs1 hp (by kernel_rfl) (by kernel_rfl) (by kernel_rfl) ⟨z1, z2, z3, z4, z5, z6, z7, trivial⟩ hs5
  ·refine wp_seq (seq_of (rg3s hk2 hs2 _ (by kernel_rfl)) fun a3 w3 h => ?_)
   obtain ⟨⟨z1, z2, z3, z4, z5, z6, z7, z8, -⟩, hpre3, hpl3, ho3⟩ := h
   refine wp_cond_false z8 (wp_skip ?_)
   refine wp_seq (seq_of (rg5s ⟨z1, z2, z3, z4, z5, z6, z7, trivial⟩ ⟨hpre3, hpl3, ho3, hpl3.2 u rfl⟩ _ (by kernel_rfl)) fun a5 w5 h => ?_)
   obtain ⟨⟨z1, z2, z3, z4, z5, z6, z7, z8, -⟩, hs5⟩ := h
   refine wp_cond_true z8 (last_of (rg6 h0 h1 ⟨z1, z2, z3, z4, z5, z6, z7, trivial⟩ hs5 _ (by kernel_rfl)) fun a6 w6 h => ?_)
   exact mid_c h0 h1 hs0 hs1 hp (by kernel_rfl) (by kernel_rfl) (by kernel_rfl) h.1 h.2
end
theorem next_c (b : Nat) (lv : Value) (se mi ho dom mo dow : Int) (loc : Option Addr) (ns s : Int) (h0 : 0 ≤ ns) (h1 : ns < 1000000000) (hs0 : -62135596800 ≤ s) (hs1 : s ≤ 800000000000) (w : World)
  (hs : IsSpec w b se mi ho dom mo dow loc) (hlv : lv = .pointer none ∨ ∃ z, z < w.heap.size ∧ w.cell? ⟨z, 0, none⟩ = some (.bool false) ∧ lv = .pointer (some ⟨z, 0, none⟩))
  (hl : (loc = none ∧ lv = .pointer none) ∨ ∃ u, loc = some ⟨u, 0, none⟩ ∧ IsUTC w u) :
  Calls Tryz.prog 202 #[.pointer (some ⟨b, 0, none⟩), tm ns (s + 62135596800) lv] w (NextQ (fOf se mi ho dom mo dow) s lv w) := by
 obtain ⟨p, hp⟩ : ∃ p, lv = .pointer p := by
  rcases hlv with h | ⟨z, -, -, h⟩
  ·exact ⟨_, h⟩
  ·exact ⟨_, h⟩
 have hb0 := hs.size
 subst hp
 go_enter Tryz.func202, Tryz.ntmps202
 refine wp_seq_k fun K hK => ?_
 go_wp2
 have hB : Below w.heap.size w ((w.alloc (Obj.cells #[Value.int IntKind.u64 ns, Value.int IntKind.i64 (s + 62135596800), Value.pointer p] 90)).alloc (Obj.cells #[Value.int IntKind.u64 0, Value.int IntKind.i64 0, Value.pointer none] 90)) :=
  ((Below.refl _ _).alloc (Nat.le_refl _) _).alloc (by simp) _
 have hpre : Pre w b w.heap.size (w.heap.size + 1) se mi ho dom mo dow loc ns (s + 62135596800) (.pointer p) ((w.alloc (Obj.cells #[Value.int IntKind.u64 ns, Value.int IntKind.i64 (s + 62135596800), Value.pointer p] 90)).alloc (Obj.cells #[Value.int IntKind.u64 0, Value.int IntKind.i64 0, Value.pointer none] 90)) :=
  ⟨hs.below hB, ⟨by simp; omega, by simp [go_sem], by simp [go_sem], by simp [go_sem], by simp [go_sem], by simp [go_sem], by simp [go_sem]⟩,
   ⟨by simp, by simp [go_sem], by simp [go_sem], by simp [go_sem], by simp [go_sem], by simp [go_sem], by simp [go_sem]⟩, hB, hb0, Nat.le_refl _, by omega, by omega⟩
 have hut : ∀ u, loc = some ⟨u, 0, none⟩ → UtcT w.heap.size ((w.alloc (Obj.cells #[Value.int IntKind.u64 ns, Value.int IntKind.i64 (s + 62135596800), Value.pointer p] 90)).alloc (Obj.cells #[Value.int IntKind.u64 0, Value.int IntKind.i64 0, Value.pointer none] 90)) u := by
  intro u e
  rcases hl with ⟨h, -⟩ | ⟨u', h, hu⟩
  ·rw [h] at e; cases e
  ·rw [h] at e; cases e; exact ⟨hu.below hB, by have := hu.size; omega⟩
 have hpl : Place w.heap.size loc ((w.alloc (Obj.cells #[Value.int IntKind.u64 ns, Value.int IntKind.i64 (s + 62135596800), Value.pointer p] 90)).alloc (Obj.cells #[Value.int IntKind.u64 0, Value.int IntKind.i64 0, Value.pointer none] 90)) (.pointer p) := by
  refine ⟨?_, hut⟩
  rcases hlv with h | ⟨z, z1, z2, h⟩
  ·exact .inl h
  ·exact .inr ⟨z, Nat.lt_of_lt_of_le z1 hB.size, by omega, (hB.cell (p := ⟨z, 0, none⟩) z1).trans z2, h⟩
 exact scope_c _ (by kernel_rfl) h0 h1 hs0 hs1 ⟨rfl, rfl, rfl, rfl, rfl, trivial⟩ hpre hpl (hl.imp id fun ⟨u, h, _⟩ => ⟨u, h⟩)
end Go.Proofs.YtcjdideliifkhaaGreatDoor
