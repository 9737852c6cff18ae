import Derived.Test.YtcjdideliifkhaaGreatDoorB13
import Derived.Test.YtcjdideliifkhaaGreatDoorB01
set_option maxRecDepth 100000
set_option maxHeartbeats 16000000
namespace Go.Proofs.YtcjdideliifkhaaGreatDoor
open Go.RowKit
set_option linter.unusedVariables false
set_option linter.unusedSimpArgs false
def Kn (n : Nat) (a : Act) (l : List (Tmp × Value)) : Prop := a.tmps.size = n ∧ a.defers = [] ∧ Slots a l
 where Slots (a : Act) : List (Tmp × Value) → Prop
 | [] => True
 | (t, v) :: l => a.tmps.getD t undef = v ∧ Slots a l
structure Pre (w0 : World) (b t3 t4 : Nat) (se mi ho dom mo dow : Int) (loc : Option Addr) (ns e : Int) (l : Value) (w : World) : Prop where
 spec : IsSpec w b se mi ho dom mo dow loc
 t : Own3 w t3 (.int .u64 ns) (.int .i64 e) l
 r : Own3 w t4 (.int .u64 0) (.int .i64 0) (.pointer none)
 below : Below w0.heap.size w0 w
 b0 : b < w0.heap.size
 h3 : w0.heap.size ≤ t3
 h4 : w0.heap.size ≤ t4
 n34 : t3 ≠ t4
theorem wraps_i64 (n : Int) (h₀ : -9223372036854775808 ≤ n) (h₁ : n ≤ 9223372036854775807) : IntKind.i64.wrap n = n := by
 simp only [IntKind.wrap, IntKind.bits, IntKind.signed]; simp; omega
section
variable {w0 : World} {b u o t3 t4 : Nat} {lv l : Value} {se mi ho dom mo dow : Int} {loc : Option Addr} {last ns e : Int}
theorem Pre.goes {w w' : World} (h : Pre w0 b t3 t4 se mi ho dom mo dow loc ns e l w) (hb : Below w.heap.size w w') : Pre w0 b t3 t4 se mi ho dom mo dow loc ns e l w' :=
 { h with spec := h.spec.below hb, t := h.t.below hb, r := h.r.below hb, below := h.below.trans (hb.mono h.below.size) }
theorem Pre.drew {w : World} (h : Pre w0 b t3 t4 se mi ho dom mo dow loc ns e l w) : Pre w0 b t3 t4 se mi ho dom mo dow loc ns e l w.drew := h.goes (Below.refl _ _).drew
theorem Pre.put {w : World} (h : Pre w0 b t3 t4 se mi ho dom mo dow loc ns e l w) (ns' e' : Int) (l' : Value) : Pre w0 b t3 t4 se mi ho dom mo dow loc ns' e' l' (set3 w t3 (.int .u64 ns') (.int .i64 e') l') :=
 { h with
  spec := h.spec.other (by have := h.b0; have := h.h3; omega) _ _ _, t := h.t.set _ _ _, r := h.r.other (Ne.symm h.n34) _ _ _,
  below := ((h.below.setCell h.h3 _).setCell h.h3 _).setCell h.h3 _ }
def OrgT (t3 : Nat) (lv : Value) (w : World) (o : Nat) : Prop := Org w o lv ∧ o ≠ t3
theorem OrgT.goes {w w' : World} (h : OrgT t3 lv w o) (hb : Below w.heap.size w w') : OrgT t3 lv w' o := ⟨h.1.below hb, h.2⟩
def UtcT (t3 : Nat) (w : World) (o : Nat) : Prop := IsUTC w o ∧ o ≠ t3
theorem UtcT.goes {w w' : World} (h : UtcT t3 w o) (hb : Below w.heap.size w w') : UtcT t3 w' o := ⟨h.1.below hb, h.2⟩
theorem location_z (ns e : Int) (z : Nat) (w : World) : Calls Tryz.prog 203 #[tm ns e (.pointer (some ⟨z, 0, none⟩))] w fun r w' => r = .returned (.pointer (some ⟨z, 0, none⟩)) ∧ Below w.heap.size w w' := by
 go_enter Tryz.func203, Tryz.ntmps203
 go_wp2
 go_ret
 exact ⟨rfl, (Below.refl _ _).alloc (Nat.le_refl _) _⟩
theorem location_any (ns e : Int) (t3 : Nat) (w : World) (lv : Value) (h : lv = .pointer none ∨ ∃ z, z < w.heap.size ∧ z ≠ t3 ∧ w.cell? ⟨z, 0, none⟩ = some (.bool false) ∧ lv = .pointer (some ⟨z, 0, none⟩)) (ht : t3 < w.heap.size) :
  Calls Tryz.prog 203 #[tm ns e lv] w fun r w' => ∃ o, r = .returned (.pointer (some ⟨o, 0, none⟩)) ∧ OrgT t3 lv w' o ∧ Below w.heap.size w w' := by
 rcases h with rfl | ⟨z, h1, h2, h3, rfl⟩
 ·refine (location_c ns e w).mono ?_
  rintro r w' ⟨u, rfl, hu, hi, hb⟩
  exact ⟨u, rfl, ⟨.inl ⟨hi, rfl⟩, by omega⟩, hb⟩
 ·refine (location_z ns e z w).mono ?_
  rintro r w' ⟨rfl, hb⟩
  exact ⟨z, rfl, ⟨.inr ⟨Nat.lt_of_lt_of_le h1 hb.size, (hb.cell (p := ⟨z, 0, none⟩) h1).trans h3, rfl⟩, h2⟩, hb⟩
def Place (t3 : Nat) (loc : Option Addr) (w : World) (lv : Value) : Prop := (lv = .pointer none ∨ ∃ z, z < w.heap.size ∧ z ≠ t3 ∧ w.cell? ⟨z, 0, none⟩ = some (.bool false) ∧ lv = .pointer (some ⟨z, 0, none⟩)) ∧ ∀ u, loc = some ⟨u, 0, none⟩ → UtcT t3 w u
theorem Place.goes {w w' : World} (h : Place t3 loc w lv) (hb : Below w.heap.size w w') : Place t3 loc w' lv := by
 refine ⟨?_, fun u hu => (h.2 u hu).goes hb⟩
 rcases h.1 with h | ⟨z, h1, h2, h3, h4⟩
 ·exact .inl h
 ·exact .inr ⟨z, Nat.lt_of_lt_of_le h1 hb.size, h2, (hb.cell (p := ⟨z, 0, none⟩) h1).trans h3, h4⟩
theorem Place.ptr {w : World} (h : Place t3 loc w lv) : ∃ p, lv = .pointer p := by
 rcases h.1 with h | ⟨z, h1, h2, h3, h4⟩
 ·exact ⟨_, h⟩
 ·exact ⟨_, h4⟩
theorem rg1  {a0 : Act} {w : World} (hf : Kn 172 a0 [(0, .pointer (some ⟨b, 0, none⟩)), (3, .pointer (some ⟨t3, 0, none⟩)), (4, .pointer (some ⟨t4, 0, none⟩))]) (hs3 : Pre w0 b t3 t4 se mi ho dom mo dow loc ns e lv w ∧ Place t3 loc w lv)
  (ops : Array Oper) (hops : opsAt 1 (Tryz.f202.body.getD .skip) = some ops) :
  (Code.region 1 ops false).wp Tryz.prog (Exit.then (fun a' w' => ∃ o, Kn 172 a' [(0, .pointer (some ⟨b, 0, none⟩)), (3, .pointer (some ⟨t3, 0, none⟩)), (4, .pointer (some ⟨t4, 0, none⟩)), (5, .pointer (some ⟨o, 0, none⟩))] ∧ OrgT t3 lv w' o ∧ Pre w0 b t3 t4 se mi ho dom mo dow loc ns e lv w' ∧ Place t3 loc w' lv) (fun _ _ _ => False)) a0 w := by
 simp [Tryz.f202, opsAt] at hops
 subst hops
 refine wp_region_line 172 hf.1 3 (fun j v w' => match j with | 0 => v = tm ns e lv | 1 => (∃ o, v = .pointer (some ⟨o, 0, none⟩) ∧ OrgT t3 lv w' o) | 2 => (∃ o, v = .pointer (some ⟨o, 0, none⟩) ∧ OrgT t3 lv w' o) | _ => True) (fun w' => Pre w0 b t3 t4 se mi ho dom mo dow loc ns e lv w' ∧ Place t3 loc w' lv) (fun w w' h hb => ⟨⟨h.1.goes hb, h.2.goes hb⟩, fun j v hv => by match j, hv with | 0, hv => exact hv | 1, hv => exact hv.imp fun o ho => ⟨ho.1, ho.2.goes hb⟩ | 2, hv => exact hv.imp fun o ho => ⟨ho.1, ho.2.goes hb⟩ | _ + 3, hv => exact trivial⟩) (by kernel_rfl) (by kernel_rfl) (by kernel_rfl) (by kernel_rfl) (by decide) hs3 ?_ ?_
 ·refine ⟨fun _ a w hs hA => ?_, fun _ a w hs hA => ?_, fun _ a w hs hA => ?_,  trivial⟩
  ·show Oper.wp _ _ _ _ _ _
   have e3 := (hA.old' 3).trans hf.2.2.2.1
   obtain ⟨zts, k0, k1, k2, f0, f1, f2⟩ := hs.1.t
   obtain ⟨zsp, c0, c1, c2, c3, c4, c5, c6⟩ := hs.1.spec
   clear hA
   obtain ⟨p, hp⟩ := hs.2.ptr
   have hb := Below.refl w.heap.size w
   go_simp
  ·show Oper.wp _ _ _ _ _ _
   have e9 := hA.got' 0 9
   simp only at e9
   clear hA
   have htz := hs.1.t.size
   have hpl := hs.2
   go_simp
   refine (location_any ns e t3 _ lv hpl.1 htz).mono ?_
   rintro r w4 ⟨o, rfl, ho, hb4⟩
   exact ⟨_, rfl, ⟨o, rfl, ho⟩, hb4⟩
  ·show Oper.wp _ _ _ _ _ _
   have e10 := hA.got' 1 10
   simp only at e10
   clear hA
   obtain ⟨o, e10, ho⟩ := e10
   have hb := Below.refl w.heap.size w
   go_simp
   exact ⟨_, rfl, o, rfl, ho⟩
 ·intro a w hs hA
  obtain ⟨o, h5, ho⟩ := hA.end' 2 5
  exact ⟨o, ⟨hA.size.trans hf.1, hA.defers.trans hf.2.1, (hA.old' 0).trans hf.2.2.1, (hA.old' 3).trans hf.2.2.2.1, (hA.old' 4).trans hf.2.2.2.2.1, h5, trivial⟩, ho, hs.1, hs.2⟩
theorem rg2  {a0 : Act} {w : World} (hf : Kn 172 a0 [(0, .pointer (some ⟨b, 0, none⟩)), (3, .pointer (some ⟨t3, 0, none⟩)), (4, .pointer (some ⟨t4, 0, none⟩)), (5, .pointer (some ⟨o, 0, none⟩))]) (hs3 : Pre w0 b t3 t4 se mi ho dom mo dow loc ns e lv w ∧ Place t3 loc w lv ∧ OrgT t3 lv w o)
  (ops : Array Oper) (hops : opsAt 2 (Tryz.f202.body.getD .skip) = some ops) :
  (Code.region 2 ops false).wp Tryz.prog (Exit.then (fun a' w' => Kn 172 a' [(0, .pointer (some ⟨b, 0, none⟩)), (3, .pointer (some ⟨t3, 0, none⟩)), (4, .pointer (some ⟨t4, 0, none⟩)), (5, .pointer (some ⟨o, 0, none⟩)), (6, .pointer loc)] ∧ Pre w0 b t3 t4 se mi ho dom mo dow loc ns e lv w' ∧ Place t3 loc w' lv ∧ OrgT t3 lv w' o) (fun _ _ _ => False)) a0 w := by
 simp [Tryz.f202, opsAt] at hops
 subst hops
 refine wp_line_fac 172 hf.1 5 [(11, .pointer (some ⟨b, 0, none⟩)), (12, .pointer (some ⟨b, 0, none⟩)), (13, .pointer (some ⟨b, 6, none⟩)), (14, .pointer loc), (6, .pointer loc)] [(0, .pointer (some ⟨b, 0, none⟩))] ⟨hf.2.2.1, trivial⟩ (by kernel_rfl) (fun w' => Pre w0 b t3 t4 se mi ho dom mo dow loc ns e lv w' ∧ Place t3 loc w' lv ∧ OrgT t3 lv w' o) (fun w w' h hb => ⟨h.1.goes hb, h.2.1.goes hb, h.2.2.goes hb⟩) hs3 ?_ ?_
 ·and_intros
  all_goals first | intro hne a w hs he | exact trivial
  all_goals
   obtain ⟨zts, k0, k1, k2, f0, f1, f2⟩ := hs.1.t
   obtain ⟨zsp, c0, c1, c2, c3, c4, c5, c6⟩ := hs.1.spec
   simp [Region.reads, Region.Told, Region.told1, Op.operands, Call.operands, List.lookup] at he ⊢
   have hb := Below.refl w.heap.size w
   go_simp
 ·intro a w hs hA
  exact ⟨⟨hA.size.trans hf.1, hA.defers.trans hf.2.1, (hA.old 0 (by kernel_rfl)).trans hf.2.2.1, (hA.old 3 (by kernel_rfl)).trans hf.2.2.2.1, (hA.old 4 (by kernel_rfl)).trans hf.2.2.2.2.1, (hA.old 5 (by kernel_rfl)).trans hf.2.2.2.2.2.1, hA.told.2.2.2.2.1, trivial⟩, hs⟩
theorem rg3n  {a0 : Act} {w : World} (hf : Kn 172 a0 [(0, .pointer (some ⟨b, 0, none⟩)), (3, .pointer (some ⟨t3, 0, none⟩)), (4, .pointer (some ⟨t4, 0, none⟩)), (5, .pointer (some ⟨o, 0, none⟩)), (6, .pointer none)]) (hs3 : Pre w0 b t3 t4 se mi ho dom mo dow none ns e lv w ∧ Place t3 none w lv ∧ OrgT t3 lv w o)
  (ops : Array Oper) (hops : opsAt 3 (Tryz.f202.body.getD .skip) = some ops) :
  (Code.region 3 ops false).wp Tryz.prog (Exit.then (fun a' w' => Kn 172 a' [(0, .pointer (some ⟨b, 0, none⟩)), (3, .pointer (some ⟨t3, 0, none⟩)), (4, .pointer (some ⟨t4, 0, none⟩)), (5, .pointer (some ⟨o, 0, none⟩)), (6, .pointer none), (16, .bool true)] ∧ Pre w0 b t3 t4 se mi ho dom mo dow none ns e lv w' ∧ Place t3 none w' lv ∧ OrgT t3 lv w' o) (fun _ _ _ => False)) a0 w := by
 simp [Tryz.f202, opsAt] at hops
 subst hops
 refine wp_line_fac 172 hf.1 2 [(15, .pointer none), (16, .bool true)] [(6, .pointer none)] ⟨hf.2.2.2.2.2.2.1, trivial⟩ (by kernel_rfl) (fun w' => Pre w0 b t3 t4 se mi ho dom mo dow none ns e lv w' ∧ Place t3 none w' lv ∧ OrgT t3 lv w' o) (fun w w' h hb => ⟨h.1.goes hb, h.2.1.goes hb, h.2.2.goes hb⟩) hs3 ?_ ?_
 ·and_intros
  all_goals first | intro hne a w hs he | exact trivial
  all_goals
   simp [Region.reads, Region.Told, Region.told1, Op.operands, Call.operands, List.lookup] at he ⊢
   have hb := Below.refl w.heap.size w
   go_simp
 ·intro a w hs hA
  exact ⟨⟨hA.size.trans hf.1, hA.defers.trans hf.2.1, (hA.old 0 (by kernel_rfl)).trans hf.2.2.1, (hA.old 3 (by kernel_rfl)).trans hf.2.2.2.1, (hA.old 4 (by kernel_rfl)).trans hf.2.2.2.2.1, (hA.old 5 (by kernel_rfl)).trans hf.2.2.2.2.2.1, (hA.old 6 (by kernel_rfl)).trans hf.2.2.2.2.2.2.1, hA.told.2.1, trivial⟩, hs⟩
theorem rg3s {p : Addr} {a0 : Act} {w : World} (hf : Kn 172 a0 [(0, .pointer (some ⟨b, 0, none⟩)), (3, .pointer (some ⟨t3, 0, none⟩)), (4, .pointer (some ⟨t4, 0, none⟩)), (5, .pointer (some ⟨o, 0, none⟩)), (6, .pointer (some p))]) (hs3 : Pre w0 b t3 t4 se mi ho dom mo dow (some p) ns e lv w ∧ Place t3 (some p) w lv ∧ OrgT t3 lv w o)
  (ops : Array Oper) (hops : opsAt 3 (Tryz.f202.body.getD .skip) = some ops) :
  (Code.region 3 ops false).wp Tryz.prog (Exit.then (fun a' w' => Kn 172 a' [(0, .pointer (some ⟨b, 0, none⟩)), (3, .pointer (some ⟨t3, 0, none⟩)), (4, .pointer (some ⟨t4, 0, none⟩)), (5, .pointer (some ⟨o, 0, none⟩)), (6, .pointer (some p)), (16, .bool false)] ∧ Pre w0 b t3 t4 se mi ho dom mo dow (some p) ns e lv w' ∧ Place t3 (some p) w' lv ∧ OrgT t3 lv w' o) (fun _ _ _ => False)) a0 w := by
 simp [Tryz.f202, opsAt] at hops
 subst hops
 refine wp_line_fac 172 hf.1 2 [(15, .pointer (some p)), (16, .bool false)] [(6, .pointer (some p))] ⟨hf.2.2.2.2.2.2.1, trivial⟩ (by kernel_rfl) (fun w' => Pre w0 b t3 t4 se mi ho dom mo dow (some p) ns e lv w' ∧ Place t3 (some p) w' lv ∧ OrgT t3 lv w' o) (fun w w' h hb => ⟨h.1.goes hb, h.2.1.goes hb, h.2.2.goes hb⟩) hs3 ?_ ?_
 ·and_intros
  all_goals first | intro hne a w hs he | exact trivial
  all_goals
   simp [Region.reads, Region.Told, Region.told1, Op.operands, Call.operands, List.lookup] at he ⊢
   have hb := Below.refl w.heap.size w
   go_simp
 ·intro a w hs hA
  exact ⟨⟨hA.size.trans hf.1, hA.defers.trans hf.2.1, (hA.old 0 (by kernel_rfl)).trans hf.2.2.1, (hA.old 3 (by kernel_rfl)).trans hf.2.2.2.1, (hA.old 4 (by kernel_rfl)).trans hf.2.2.2.2.1, (hA.old 5 (by kernel_rfl)).trans hf.2.2.2.2.2.1, (hA.old 6 (by kernel_rfl)).trans hf.2.2.2.2.2.2.1, hA.told.2.1, trivial⟩, hs⟩
theorem rg4  {a0 : Act} {w : World} (hf : Kn 172 a0 [(0, .pointer (some ⟨b, 0, none⟩)), (3, .pointer (some ⟨t3, 0, none⟩)), (4, .pointer (some ⟨t4, 0, none⟩)), (5, .pointer (some ⟨o, 0, none⟩))]) (hs3 : Pre w0 b t3 t4 se mi ho dom mo dow none ns e (.pointer none) w ∧ OrgT t3 (.pointer none) w o)
  (ops : Array Oper) (hops : opsAt 4 (Tryz.f202.body.getD .skip) = some ops) :
  (Code.region 4 ops false).wp Tryz.prog (Exit.then (fun a' w' => ∃ u, Kn 172 a' [(0, .pointer (some ⟨b, 0, none⟩)), (3, .pointer (some ⟨t3, 0, none⟩)), (4, .pointer (some ⟨t4, 0, none⟩)), (5, .pointer (some ⟨o, 0, none⟩)), (6, .pointer (some ⟨u, 0, none⟩))] ∧ Pre w0 b t3 t4 se mi ho dom mo dow none ns e (.pointer none) w' ∧ OrgT t3 (.pointer none) w' o ∧ UtcT t3 w' u) (fun _ _ _ => False)) a0 w := by
 simp [Tryz.f202, opsAt] at hops
 subst hops
 refine wp_region_line 172 hf.1 3 (fun j v w' => match j with | 0 => v = tm ns e (.pointer none) | 1 => (∃ u, v = .pointer (some ⟨u, 0, none⟩) ∧ UtcT t3 w' u) | 2 => (∃ u, v = .pointer (some ⟨u, 0, none⟩) ∧ UtcT t3 w' u) | _ => True) (fun w' => Pre w0 b t3 t4 se mi ho dom mo dow none ns e (.pointer none) w' ∧ OrgT t3 (.pointer none) w' o) (fun w w' h hb => ⟨⟨h.1.goes hb, h.2.goes hb⟩, fun j v hv => by match j, hv with | 0, hv => exact hv | 1, hv => exact hv.imp fun o ho => ⟨ho.1, ho.2.goes hb⟩ | 2, hv => exact hv.imp fun o ho => ⟨ho.1, ho.2.goes hb⟩ | _ + 3, hv => exact trivial⟩) (by kernel_rfl) (by kernel_rfl) (by kernel_rfl) (by kernel_rfl) (by decide) hs3 ?_ ?_
 ·refine ⟨fun _ a w hs hA => ?_, fun _ a w hs hA => ?_, fun _ a w hs hA => ?_,  trivial⟩
  ·show Oper.wp _ _ _ _ _ _
   have e3 := (hA.old' 3).trans hf.2.2.2.1
   obtain ⟨zts, k0, k1, k2, f0, f1, f2⟩ := hs.1.t
   obtain ⟨zsp, c0, c1, c2, c3, c4, c5, c6⟩ := hs.1.spec
   clear hA
   have hb := Below.refl w.heap.size w
   go_simp
  ·show Oper.wp _ _ _ _ _ _
   have e17 := hA.got' 0 17
   simp only at e17
   clear hA
   have htz := hs.1.t.size
   go_simp
   refine (location_c ns e _).mono ?_
   rintro r w4 ⟨u, rfl, hu, hi, hb4⟩
   exact ⟨_, rfl, ⟨u, rfl, hi, by omega⟩, hb4⟩
  ·show Oper.wp _ _ _ _ _ _
   have e18 := hA.got' 1 18
   simp only at e18
   clear hA
   obtain ⟨u, e18, hu⟩ := e18
   have hb := Below.refl w.heap.size w
   go_simp
   exact ⟨_, rfl, u, rfl, hu⟩
 ·intro a w hs hA
  obtain ⟨u, h6, hu⟩ := hA.end' 2 6
  exact ⟨u, ⟨hA.size.trans hf.1, hA.defers.trans hf.2.1, (hA.old' 0).trans hf.2.2.1, (hA.old' 3).trans hf.2.2.2.1, (hA.old' 4).trans hf.2.2.2.2.1, (hA.old' 5).trans hf.2.2.2.2.2.1, h6, trivial⟩, hs.1, hs.2, hu⟩
theorem rg5n  {a0 : Act} {w : World} (hf : Kn 172 a0 [(0, .pointer (some ⟨b, 0, none⟩)), (3, .pointer (some ⟨t3, 0, none⟩)), (4, .pointer (some ⟨t4, 0, none⟩)), (5, .pointer (some ⟨o, 0, none⟩)), (6, .pointer (some ⟨u, 0, none⟩))]) (hs3 : Pre w0 b t3 t4 se mi ho dom mo dow none ns e (.pointer none) w ∧ OrgT t3 (.pointer none) w o ∧ UtcT t3 w u)
  (ops : Array Oper) (hops : opsAt 5 (Tryz.f202.body.getD .skip) = some ops) :
  (Code.region 5 ops false).wp Tryz.prog (Exit.then (fun a' w' => Kn 172 a' [(0, .pointer (some ⟨b, 0, none⟩)), (3, .pointer (some ⟨t3, 0, none⟩)), (4, .pointer (some ⟨t4, 0, none⟩)), (5, .pointer (some ⟨o, 0, none⟩)), (6, .pointer (some ⟨u, 0, none⟩)), (23, .bool false)] ∧ Pre w0 b t3 t4 se mi ho dom mo dow none ns e (.pointer none) w' ∧ OrgT t3 (.pointer none) w' o ∧ UtcT t3 w' u) (fun _ _ _ => False)) a0 w := by
 simp [Tryz.f202, opsAt] at hops
 subst hops
 refine wp_line_fac 172 hf.1 5 [(19, .pointer (some ⟨b, 0, none⟩)), (20, .pointer (some ⟨b, 0, none⟩)), (21, .pointer (some ⟨b, 6, none⟩)), (22, .pointer none), (23, .bool false)] [(0, .pointer (some ⟨b, 0, none⟩))] ⟨hf.2.2.1, trivial⟩ (by kernel_rfl) (fun w' => Pre w0 b t3 t4 se mi ho dom mo dow none ns e (.pointer none) w' ∧ OrgT t3 (.pointer none) w' o ∧ UtcT t3 w' u) (fun w w' h hb => ⟨h.1.goes hb, h.2.1.goes hb, h.2.2.goes hb⟩) hs3 ?_ ?_
 ·and_intros
  all_goals first | intro hne a w hs he | exact trivial
  all_goals
   obtain ⟨zts, k0, k1, k2, f0, f1, f2⟩ := hs.1.t
   obtain ⟨zsp, c0, c1, c2, c3, c4, c5, c6⟩ := hs.1.spec
   simp [Region.reads, Region.Told, Region.told1, Op.operands, Call.operands, List.lookup] at he ⊢
   have hb := Below.refl w.heap.size w
   go_simp
 ·intro a w hs hA
  exact ⟨⟨hA.size.trans hf.1, hA.defers.trans hf.2.1, (hA.old 0 (by kernel_rfl)).trans hf.2.2.1, (hA.old 3 (by kernel_rfl)).trans hf.2.2.2.1, (hA.old 4 (by kernel_rfl)).trans hf.2.2.2.2.1, (hA.old 5 (by kernel_rfl)).trans hf.2.2.2.2.2.1, (hA.old 6 (by kernel_rfl)).trans hf.2.2.2.2.2.2.1, hA.told.2.2.2.2.1, trivial⟩, hs⟩
theorem rg5s  {a0 : Act} {w : World} (hf : Kn 172 a0 [(0, .pointer (some ⟨b, 0, none⟩)), (3, .pointer (some ⟨t3, 0, none⟩)), (4, .pointer (some ⟨t4, 0, none⟩)), (5, .pointer (some ⟨o, 0, none⟩)), (6, .pointer (some ⟨u, 0, none⟩))]) (hs3 : Pre w0 b t3 t4 se mi ho dom mo dow (some ⟨u, 0, none⟩) ns e lv w ∧ Place t3 (some ⟨u, 0, none⟩) w lv ∧ OrgT t3 lv w o ∧ UtcT t3 w u)
  (ops : Array Oper) (hops : opsAt 5 (Tryz.f202.body.getD .skip) = some ops) :
  (Code.region 5 ops false).wp Tryz.prog (Exit.then (fun a' w' => Kn 172 a' [(0, .pointer (some ⟨b, 0, none⟩)), (3, .pointer (some ⟨t3, 0, none⟩)), (4, .pointer (some ⟨t4, 0, none⟩)), (5, .pointer (some ⟨o, 0, none⟩)), (6, .pointer (some ⟨u, 0, none⟩)), (23, .bool true)] ∧ Pre w0 b t3 t4 se mi ho dom mo dow (some ⟨u, 0, none⟩) ns e lv w' ∧ Place t3 (some ⟨u, 0, none⟩) w' lv ∧ OrgT t3 lv w' o ∧ UtcT t3 w' u) (fun _ _ _ => False)) a0 w := by
 simp [Tryz.f202, opsAt] at hops
 subst hops
 refine wp_line_fac 172 hf.1 5 [(19, .pointer (some ⟨b, 0, none⟩)), (20, .pointer (some ⟨b, 0, none⟩)), (21, .pointer (some ⟨b, 6, none⟩)), (22, .pointer (some ⟨u, 0, none⟩)), (23, .bool true)] [(0, .pointer (some ⟨b, 0, none⟩))] ⟨hf.2.2.1, trivial⟩ (by kernel_rfl) (fun w' => Pre w0 b t3 t4 se mi ho dom mo dow (some ⟨u, 0, none⟩) ns e lv w' ∧ Place t3 (some ⟨u, 0, none⟩) w' lv ∧ OrgT t3 lv w' o ∧ UtcT t3 w' u) (fun w w' h hb => ⟨h.1.goes hb, h.2.1.goes hb, h.2.2.1.goes hb, h.2.2.2.goes hb⟩) hs3 ?_ ?_
 ·and_intros
  all_goals first | intro hne a w hs he | exact trivial
  all_goals
   obtain ⟨zts, k0, k1, k2, f0, f1, f2⟩ := hs.1.t
   obtain ⟨zsp, c0, c1, c2, c3, c4, c5, c6⟩ := hs.1.spec
   simp [Region.reads, Region.Told, Region.told1, Op.operands, Call.operands, List.lookup] at he ⊢
   have hb := Below.refl w.heap.size w
   go_simp
 ·intro a w hs hA
  exact ⟨⟨hA.size.trans hf.1, hA.defers.trans hf.2.1, (hA.old 0 (by kernel_rfl)).trans hf.2.2.1, (hA.old 3 (by kernel_rfl)).trans hf.2.2.2.1, (hA.old 4 (by kernel_rfl)).trans hf.2.2.2.2.1, (hA.old 5 (by kernel_rfl)).trans hf.2.2.2.2.2.1, (hA.old 6 (by kernel_rfl)).trans hf.2.2.2.2.2.2.1, hA.told.2.2.2.2.1, trivial⟩, hs⟩
theorem rg6 (h0 : 0 ≤ ns) (h1 : ns < 1000000000) {a0 : Act} {w : World} (hf : Kn 172 a0 [(0, .pointer (some ⟨b, 0, none⟩)), (3, .pointer (some ⟨t3, 0, none⟩)), (4, .pointer (some ⟨t4, 0, none⟩)), (5, .pointer (some ⟨o, 0, none⟩)), (6, .pointer (some ⟨u, 0, none⟩))]) (hs3 : Pre w0 b t3 t4 se mi ho dom mo dow (some ⟨u, 0, none⟩) ns e lv w ∧ Place t3 (some ⟨u, 0, none⟩) w lv ∧ OrgT t3 lv w o ∧ UtcT t3 w u)
  (ops : Array Oper) (hops : opsAt 6 (Tryz.f202.body.getD .skip) = some ops) :
  (Code.region 6 ops true).wp Tryz.prog (Exit.then (fun a' w' => Kn 172 a' [(0, .pointer (some ⟨b, 0, none⟩)), (3, .pointer (some ⟨t3, 0, none⟩)), (4, .pointer (some ⟨t4, 0, none⟩)), (5, .pointer (some ⟨o, 0, none⟩)), (6, .pointer (some ⟨u, 0, none⟩))] ∧ Pre w0 b t3 t4 se mi ho dom mo dow (some ⟨u, 0, none⟩) ns e (.pointer none) w' ∧ OrgT t3 lv w' o ∧ UtcT t3 w' u) (fun _ _ _ => False)) a0 w := by
 simp [Tryz.f202, opsAt] at hops
 subst hops
 replace hs3 : _ ∧ _ ∧ _ ∧ _ := hs3
 have hs4 := hs3
 obtain ⟨p, hp⟩ := hs3.2.1.ptr
 refine wp_region_fac (by kernel_rfl) 172 hf.1 6 [(24, tm ns e lv), (25, .pointer (some ⟨b, 0, none⟩)), (26, .pointer (some ⟨b, 0, none⟩)), (27, .pointer (some ⟨b, 6, none⟩)), (28, .pointer (some ⟨u, 0, none⟩)), (29, tm ns e (.pointer none))] [(0, .pointer (some ⟨b, 0, none⟩)), (3, .pointer (some ⟨t3, 0, none⟩))] ⟨hf.2.2.1, hf.2.2.2.1, trivial⟩ (by kernel_rfl) (fun w' => Pre w0 b t3 t4 se mi ho dom mo dow (some ⟨u, 0, none⟩) ns e lv w' ∧ Place t3 (some ⟨u, 0, none⟩) w' lv ∧ OrgT t3 lv w' o ∧ UtcT t3 w' u) (fun w w' h hb => ⟨h.1.goes hb, h.2.1.goes hb, h.2.2.1.goes hb, h.2.2.2.goes hb⟩) (⟨hs3.1.drew, hs3.2.1.goes (Below.refl _ _).drew, hs3.2.2.1.goes (Below.refl _ _).drew, hs3.2.2.2.goes (Below.refl _ _).drew⟩) ?_ ?_
 ·and_intros
  all_goals first | intro hne a w hs he | exact trivial
  all_goals first | exact absurd rfl hne | skip
  all_goals
   obtain ⟨zts, k0, k1, k2, f0, f1, f2⟩ := hs.1.t
   obtain ⟨zsp, c0, c1, c2, c3, c4, c5, c6⟩ := hs.1.spec
   simp [Region.reads, Region.Told, Region.told1, Op.operands, Call.operands, List.lookup] at he ⊢
   have hb := Below.refl w.heap.size w
   go_simp
  ·refine (in_utc ns e (.pointer p) ⟨p, rfl⟩ h0 h1 u _ hs.2.2.2.1).mono ?_
   rintro r w4 ⟨rfl, hb4⟩
   exact ⟨_, rfl, rfl, hb4⟩
 ·intro a w hs hA
  have e3 := (hA.old 3 (by kernel_rfl)).trans hf.2.2.2.1
  have e29 := hA.told.2.2.2.2.2.1
  obtain ⟨zts, k0, k1, k2, f0, f1, f2⟩ := hs.1.t
  obtain ⟨zsp, c0, c1, c2, c3, c4, c5, c6⟩ := hs.1.spec
  have hput := hs.1.put ns e (.pointer none)
  have hts := hs.1.t.size
  refine Oper.wp_mono (K := fun a' w' => a' = a ∧ w' = set3 w t3 (.int .u64 ns) (.int .i64 e) (.pointer none)) (fun a' w' hq => ?_) ?_
  ·obtain ⟨rfl, rfl⟩ := hq
   exact ⟨⟨hA.size.trans hf.1, hA.defers.trans hf.2.1, (hA.old 0 (by kernel_rfl)).trans hf.2.2.1, (hA.old 3 (by kernel_rfl)).trans hf.2.2.2.1, (hA.old 4 (by kernel_rfl)).trans hf.2.2.2.2.1, (hA.old 5 (by kernel_rfl)).trans hf.2.2.2.2.2.1, (hA.old 6 (by kernel_rfl)).trans hf.2.2.2.2.2.2.1, trivial⟩, hput, ⟨hs.2.2.1.1.other hs.2.2.1.2 _ _ _, hs.2.2.1.2⟩, ⟨hs.2.2.2.1.other hs.2.2.2.2 _ _ _, hs.2.2.2.2⟩⟩
  ·simp only [at_, tm] at *
   clear hput hA hf
   go_simp
theorem rg7 (h0 : 0 ≤ ns) (h1 : ns < 1000000000) (he0 : 0 ≤ e) (he1 : e ≤ 1000000000000) {a0 : Act} {w : World} (hf : Kn 172 a0 [(0, .pointer (some ⟨b, 0, none⟩)), (3, .pointer (some ⟨t3, 0, none⟩)), (4, .pointer (some ⟨t4, 0, none⟩)), (5, .pointer (some ⟨o, 0, none⟩)), (6, .pointer (some ⟨u, 0, none⟩))]) (hs3 : Pre w0 b t3 t4 se mi ho dom mo dow loc ns e (.pointer none) w ∧ OrgT t3 lv w o ∧ UtcT t3 w u)
  (ops : Array Oper) (hops : opsAt 7 (Tryz.f202.body.getD .skip) = some ops) :
  (Code.region 7 ops true).wp Tryz.prog (Exit.then (fun a' w' => Kn 172 a' [(0, .pointer (some ⟨b, 0, none⟩)), (3, .pointer (some ⟨t3, 0, none⟩)), (4, .pointer (some ⟨t4, 0, none⟩)), (5, .pointer (some ⟨o, 0, none⟩)), (6, .pointer (some ⟨u, 0, none⟩))] ∧ Pre w0 b t3 t4 se mi ho dom mo dow loc 0 (e + 1) (.pointer none) w' ∧ OrgT t3 lv w' o ∧ UtcT t3 w' u) (fun _ _ _ => False)) a0 w := by
 simp [Tryz.f202, opsAt] at hops
 subst hops
 refine wp_region_fac (by kernel_rfl) 172 hf.1 6 [(30, tm ns e (.pointer none)), (31, tm ns e (.pointer none)), (32, .int .i64 ns), (33, .int .i64 ns), (34, .int .i64 (1000000000 - ns)), (35, tm 0 (e + 1) (.pointer none))] [(3, .pointer (some ⟨t3, 0, none⟩))] ⟨hf.2.2.2.1, trivial⟩ (by kernel_rfl) (fun w' => Pre w0 b t3 t4 se mi ho dom mo dow loc ns e (.pointer none) w' ∧ OrgT t3 lv w' o ∧ UtcT t3 w' u) (fun w w' h hb => ⟨h.1.goes hb, h.2.1.goes hb, h.2.2.goes hb⟩) (⟨hs3.1.drew, hs3.2.1.goes (Below.refl _ _).drew, hs3.2.2.goes (Below.refl _ _).drew⟩) ?_ ?_
 ·and_intros
  all_goals first | intro hne a w hs he | exact trivial
  all_goals first | exact absurd rfl hne | skip
  all_goals
   obtain ⟨zts, k0, k1, k2, f0, f1, f2⟩ := hs.1.t
   obtain ⟨zsp, c0, c1, c2, c3, c4, c5, c6⟩ := hs.1.spec
   have hwr : IntKind.i64.wrap ns = ns := wraps_i64 _ (by omega) (by omega)
   have hwr : IntKind.i64.wrap (1000000000 - ns) = 1000000000 - ns := wraps_i64 _ (by omega) (by omega)
   simp [Region.reads, Region.Told, Region.told1, Op.operands, Call.operands, List.lookup] at he ⊢
   have hb := Below.refl w.heap.size w
   go_simp
  ·refine (nanosecond_c ns e _ ⟨_, rfl⟩ h0 h1 _).mono ?_
   rintro r w4 ⟨rfl, hb4⟩
   exact ⟨_, rfl, rfl, hb4⟩
  ·refine (add_c ns e 1 _ (.pointer none) ⟨_, rfl⟩ h0 h1 rfl (by omega) (by omega) (by omega) (by omega) _).mono ?_
   rintro r w4 ⟨rfl, hb4⟩
   exact ⟨_, rfl, rfl, hb4⟩
 ·intro a w hs hA
  have e3 := (hA.old 3 (by kernel_rfl)).trans hf.2.2.2.1
  have e35 := hA.told.2.2.2.2.2.1
  obtain ⟨zts, k0, k1, k2, f0, f1, f2⟩ := hs.1.t
  obtain ⟨zsp, c0, c1, c2, c3, c4, c5, c6⟩ := hs.1.spec
  have hput := hs.1.put 0 (e + 1) (.pointer none)
  have hts := hs.1.t.size
  refine Oper.wp_mono (K := fun a' w' => a' = a ∧ w' = set3 w t3 (.int .u64 0) (.int .i64 (e + 1)) (.pointer none)) (fun a' w' hq => ?_) ?_
  ·obtain ⟨rfl, rfl⟩ := hq
   exact ⟨⟨hA.size.trans hf.1, hA.defers.trans hf.2.1, (hA.old 0 (by kernel_rfl)).trans hf.2.2.1, (hA.old 3 (by kernel_rfl)).trans hf.2.2.2.1, (hA.old 4 (by kernel_rfl)).trans hf.2.2.2.2.1, (hA.old 5 (by kernel_rfl)).trans hf.2.2.2.2.2.1, (hA.old 6 (by kernel_rfl)).trans hf.2.2.2.2.2.2.1, trivial⟩, hput, ⟨hs.2.1.1.other hs.2.1.2 _ _ _, hs.2.1.2⟩, ⟨hs.2.2.1.other hs.2.2.2 _ _ _, hs.2.2.2⟩⟩
  ·simp only [at_, tm] at *
   clear hput hA hf
   go_simp
theorem rg8  {a0 : Act} {w : World} (hf : Kn 172 a0 [(0, .pointer (some ⟨b, 0, none⟩)), (3, .pointer (some ⟨t3, 0, none⟩)), (4, .pointer (some ⟨t4, 0, none⟩)), (5, .pointer (some ⟨o, 0, none⟩)), (6, .pointer (some ⟨u, 0, none⟩))]) (hs3 : Pre w0 b t3 t4 se mi ho dom mo dow loc ns e (.pointer none) w ∧ OrgT t3 lv w o ∧ UtcT t3 w u)
  (ops : Array Oper) (hops : opsAt 8 (Tryz.f202.body.getD .skip) = some ops) :
  (Code.region 8 ops false).wp Tryz.prog (Exit.then (fun a' w' => Kn 172 a' [(0, .pointer (some ⟨b, 0, none⟩)), (3, .pointer (some ⟨t3, 0, none⟩)), (4, .pointer (some ⟨t4, 0, none⟩)), (5, .pointer (some ⟨o, 0, none⟩)), (6, .pointer (some ⟨u, 0, none⟩)), (7, .bool false)] ∧ Pre w0 b t3 t4 se mi ho dom mo dow loc ns e (.pointer none) w' ∧ OrgT t3 lv w' o ∧ UtcT t3 w' u) (fun _ _ _ => False)) a0 w := by
 simp [Tryz.f202, opsAt] at hops
 subst hops
 refine wp_line_fac 172 hf.1 1 [(7, .bool false)] [] trivial (by kernel_rfl) (fun w' => Pre w0 b t3 t4 se mi ho dom mo dow loc ns e (.pointer none) w' ∧ OrgT t3 lv w' o ∧ UtcT t3 w' u) (fun w w' h hb => ⟨h.1.goes hb, h.2.1.goes hb, h.2.2.goes hb⟩) hs3 ?_ ?_
 ·and_intros
  all_goals first | intro hne a w hs he | exact trivial
  all_goals
   simp [Region.reads, Region.Told, Region.told1, Op.operands, Call.operands, List.lookup] at he ⊢
   have hb := Below.refl w.heap.size w
   go_simp
 ·intro a w hs hA
  exact ⟨⟨hA.size.trans hf.1, hA.defers.trans hf.2.1, (hA.old 0 (by kernel_rfl)).trans hf.2.2.1, (hA.old 3 (by kernel_rfl)).trans hf.2.2.2.1, (hA.old 4 (by kernel_rfl)).trans hf.2.2.2.2.1, (hA.old 5 (by kernel_rfl)).trans hf.2.2.2.2.2.1, (hA.old 6 (by kernel_rfl)).trans hf.2.2.2.2.2.2.1, hA.told.1, trivial⟩, hs⟩
theorem rg9 {x : Int} (hxa : -62135596800 ≤ x) (hxb : x ≤ 900000000000) {a0 : Act} {w : World} (hf : Kn 172 a0 [(0, .pointer (some ⟨b, 0, none⟩)), (3, .pointer (some ⟨t3, 0, none⟩)), (4, .pointer (some ⟨t4, 0, none⟩)), (5, .pointer (some ⟨o, 0, none⟩)), (6, .pointer (some ⟨u, 0, none⟩)), (7, .bool false)]) (hs3 : Pre w0 b t3 t4 se mi ho dom mo dow loc 0 (x + 62135596800) (.pointer none) w ∧ OrgT t3 lv w o ∧ UtcT t3 w u)
  (ops : Array Oper) (hops : opsAt 9 (Tryz.f202.body.getD .skip) = some ops) :
  (Code.region 9 ops false).wp Tryz.prog (Exit.then (fun a' w' => Kn 172 a' [(0, .pointer (some ⟨b, 0, none⟩)), (3, .pointer (some ⟨t3, 0, none⟩)), (4, .pointer (some ⟨t4, 0, none⟩)), (5, .pointer (some ⟨o, 0, none⟩)), (6, .pointer (some ⟨u, 0, none⟩)), (7, .bool false), (8, .int .i64 (Cal.Y (x / 86400) + 5))] ∧ Pre w0 b t3 t4 se mi ho dom mo dow loc 0 (x + 62135596800) (.pointer none) w' ∧ OrgT t3 lv w' o ∧ UtcT t3 w' u) (fun _ _ _ => False)) a0 w := by
 simp [Tryz.f202, opsAt] at hops
 subst hops
 have hyd := date_in x hxa hxb
 obtain ⟨hy0, hy1⟩ := hyd
 refine wp_line_fac 172 hf.1 4 [(36, at_ x), (37, .int .i64 (Cal.Y (x / 86400))), (38, .int .i64 (Cal.Y (x / 86400) + 5)), (8, .int .i64 (Cal.Y (x / 86400) + 5))] [(3, .pointer (some ⟨t3, 0, none⟩))] ⟨hf.2.2.2.1, trivial⟩ (by kernel_rfl) (fun w' => Pre w0 b t3 t4 se mi ho dom mo dow loc 0 (x + 62135596800) (.pointer none) w' ∧ OrgT t3 lv w' o ∧ UtcT t3 w' u) (fun w w' h hb => ⟨h.1.goes hb, h.2.1.goes hb, h.2.2.goes hb⟩) hs3 ?_ ?_
 ·and_intros
  all_goals first | intro hne a w hs he | exact trivial
  all_goals
   obtain ⟨zts, k0, k1, k2, f0, f1, f2⟩ := hs.1.t
   obtain ⟨zsp, c0, c1, c2, c3, c4, c5, c6⟩ := hs.1.spec
   have hwr : IntKind.i64.wrap (Cal.Y (x / 86400) + 5) = Cal.Y (x / 86400) + 5 := wraps_i64 _ (by omega) (by omega)
   simp [Region.reads, Region.Told, Region.told1, Op.operands, Call.operands, List.lookup] at he ⊢
   have hb := Below.refl w.heap.size w
   go_simp
  ·refine (year_s x hxa hxb _).mono ?_
   rintro r w4 ⟨rfl, hb4⟩
   exact ⟨_, rfl, rfl, hb4⟩
 ·intro a w hs hA
  exact ⟨⟨hA.size.trans hf.1, hA.defers.trans hf.2.1, (hA.old 0 (by kernel_rfl)).trans hf.2.2.1, (hA.old 3 (by kernel_rfl)).trans hf.2.2.2.1, (hA.old 4 (by kernel_rfl)).trans hf.2.2.2.2.1, (hA.old 5 (by kernel_rfl)).trans hf.2.2.2.2.2.1, (hA.old 6 (by kernel_rfl)).trans hf.2.2.2.2.2.2.1, (hA.old 7 (by kernel_rfl)).trans hf.2.2.2.2.2.2.2.1, hA.told.2.2.2.1, trivial⟩, hs⟩
end
open Go.RowKit Go.Proofs.YtcjdideliifkhaaGreatDoorW.PrintWords
section
variable {w0 : World} {u : Nat}
end
section
variable {w0 : World} {u : Nat}
end
end Go.Proofs.YtcjdideliifkhaaGreatDoor
