import Derived.Test.YtcjdideliifkhaaGreatDoorA20
import Derived.Test.YtcjdideliifkhaaGreatDoorA01
set_option maxRecDepth 100000
set_option maxHeartbeats 16000000
namespace Go.Proofs.YtcjdideliifkhaaGreatDoor
open Go.RowKit Go.Proofs.YtcjdideliifkhaaGreatDoorW.PrintWords
set_option linter.unusedVariables false
set_option linter.unusedSimpArgs false
theorem info190 : (Tryz.prog.info? 190).map (fun i => (i.zero, i.size, i.bytes)) = some (some (.agg #[.string ⟨#[]⟩, .int .i64 0, .bool false]), 3, 32) := by kernel_rfl
theorem info192 : (Tryz.prog.info? 192).map (fun i => (i.zero, i.size, i.bytes)) = some (some (.agg #[.int .i64 0, .int .u8 0, .bool false, .bool false]), 4, 16) := by kernel_rfl
structure ZAt (w0 : World) (u f : Nat) (sv : Value) (w : World) : Prop where
 below : Below w0.heap.size w0 w
 lt : u < w.heap.size
 ge : w0.heap.size ≤ u
 c0 : w.cell? ⟨u, 0, none⟩ = some (.bool false)
 cf : w.cell? ⟨u, f, none⟩ = some sv
 ff : w.frozen? ⟨u, f, none⟩ = false
def ZRow (w0 : World) (u e size : Nat) (sv : Value) (n : Nat) (w : World) : Prop := sv.ownBlock ≠ some u ∧ ∃ xs, w.ownsRow w0.heap.size e size sv n xs
theorem ZAt.goes {w0 w w' : World} {u f : Nat} {sv : Value} (h : ZAt w0 u f sv w) (hb : Below w.heap.size w w') : ZAt w0 u f sv w' :=
 ⟨h.below.trans (hb.mono h.below.size), Nat.lt_of_lt_of_le h.lt hb.size, h.ge, (hb.cell (p := ⟨u, 0, none⟩) h.lt).trans h.c0, (hb.cell (p := ⟨u, f, none⟩) h.lt).trans h.cf, (hb.frozen (p := ⟨u, f, none⟩) h.lt).trans h.ff⟩
theorem ZRow.kept {w0 w w1 : World} {u e size n : Nat} {v : Value} (h : ZRow w0 u e size v n w) (hm : ∀ k, k < w.heap.size → k ≠ u → w1.heap[k]? = w.heap[k]?) : ZRow w0 u e size v n w1 := by
 obtain ⟨h1, xs, ho⟩ := h
 exact ⟨h1, xs, own_move ho (fun k hk => hm k (own_lt ho k hk) (fun e => h1 (by rw [hk, e])))⟩
theorem ZRow.goes {w0 w w' : World} {u e size n : Nat} {sv : Value} (h : ZRow w0 u e size sv n w) (hb : Below w.heap.size w w') : ZRow w0 u e size sv n w' :=
 h.kept fun k hk _ => hb.block k hk
section
variable {w0 : World} {u : Nat}
theorem zr5 {sv : Value} {n : Nat} {ib io n1 c1 i : Nat} {o : Int} (ho : True) (hi : i < n1) (hn1 : n1 < 100000) (hib : ib < w0.heap.size) (hd : ∃ dd, w0.cell? ⟨ib, io + i, none⟩ = some (.bool dd)) (hn : n < 100000) {a0 : Act} {w : World}
  (hf : Kn 64 a0 [(1, .slice (some ⟨ib, io, none⟩) n1 c1), (9, .pointer (some ⟨u, 0, none⟩)), (10, .int .i64 (i : Int)), (11, .int .i64 o)]) (hz : ZAt w0 u 2 sv w) (hr : ZRow w0 u 190 3 sv n w)
  (ops : Array Oper) (hops : opsAt 5 (Tryz.f69.body.getD .skip) = some ops) :
  (Code.region 5 ops true).wp Tryz.prog (Exit.then (fun a' w' => (a'.tmps.size = 64 ∧ a'.defers = [] ∧ ∀ t, t < 23 → a'.tmps.getD t undef = a0.tmps.getD t undef) ∧ ∃ sv', ZAt w0 u 2 sv' w' ∧ ZRow w0 u 190 3 sv' (n + 1) w' ∧
   w'.frozen? ⟨u, 3, none⟩ = w.frozen? ⟨u, 3, none⟩ ∧ w'.cell? ⟨u, 3, none⟩ = w.cell? ⟨u, 3, none⟩) (fun _ _ _ => False)) a0 w := by
 simp [Tryz.f69, opsAt] at hops
 subst hops
 obtain ⟨i0, hi0, hz0, hz1, hz2⟩ := info_parts info190
 obtain ⟨dd, hd⟩ := hd
 have j0 : (0 : Int) ≤ (i : Int) := by omega
 have j1 : (i : Int) < (n1 : Int) := by omega
 have hdw : ∀ w', Below w0.heap.size w0 w' → w'.cell? ⟨ib, io + i, none⟩ = some (.bool dd) := fun w' hb => (hb.cell (p := ⟨ib, _, none⟩) hib).trans hd
 refine wp_region_piv (by kernel_rfl) 64 hf.1 15 12
  (fun fl j v w' => match j with | 0 => v = .pointer (some ⟨u, 0, none⟩) | 1 => v = .pointer (some ⟨u, 0, none⟩) | 2 => v = .pointer (some ⟨u, 0, none⟩) | 3 => v = .pointer (some ⟨u, 2, none⟩) | 4 => v = sv | 5 => v = .int .i64 o | 6 => v = .slice (some ⟨ib, io, none⟩) n1 c1 | 7 => v = .int .i64 (i : Int) | 8 => v = .pointer (some ⟨ib, io + i, none⟩) | 9 => v = .bool dd | 10 => v = .agg #[.string ⟨#[122, 111, 110, 101]⟩, .int .i64 o, .bool dd] | 13 => v = .pointer (some ⟨u, 0, none⟩) | 14 => v = .pointer (some ⟨u, 2, none⟩) | 11 => (fl = false → ∃ k c, v = .slice (some ⟨k, 0, none⟩) 1 c ∧ w'.heap[k]? = some (.cells #[.string ⟨#[122, 111, 110, 101]⟩, .int .i64 o, .bool dd] 190 (0, 0))) | 12 => (fl = true ∧ ZRow w0 u 190 3 v (n + 1) w') | _ => True)
  (fun fl w' => ZAt w0 u 2 sv w' ∧ (fl = false → ZRow w0 u 190 3 sv n w') ∧ w'.frozen? ⟨u, 3, none⟩ = w.frozen? ⟨u, 3, none⟩ ∧ w'.cell? ⟨u, 3, none⟩ = w.cell? ⟨u, 3, none⟩)
  (fun fl w1 w' => Below w1.heap.size w1 w') (fun _ _ => Below.refl _ _)
  (fun fl w1 w' h hb => ⟨⟨h.1.goes hb, fun hfl => (h.2.1 hfl).goes hb, (hb.frozen (p := ⟨u, 3, none⟩) h.1.lt).trans h.2.2.1, (hb.cell (p := ⟨u, 3, none⟩) h.1.lt).trans h.2.2.2⟩, fun j v hv => by
   match j, hv with
   | 0, hv => exact hv
   | 1, hv => exact hv
   | 2, hv => exact hv
   | 3, hv => exact hv
   | 4, hv => exact hv
   | 5, hv => exact hv
   | 6, hv => exact hv
   | 7, hv => exact hv
   | 8, hv => exact hv
   | 9, hv => exact hv
   | 10, hv => exact hv
   | 11, hv => exact fun hfl => (hv hfl).imp fun k h => h.imp fun c h => ⟨h.1, (hb.block k ((Array.getElem?_eq_some_iff.1 h.2).1)).trans h.2⟩
   | 12, hv => exact ⟨hv.1, hv.2.goes hb⟩
   | 13, hv => exact hv
   | 14, hv => exact hv
   | _ + 15, hv => exact trivial⟩)
  (by kernel_rfl) (by kernel_rfl) (by kernel_rfl) (by kernel_rfl) (by kernel_rfl) (by kernel_rfl) ⟨hz.goes (Below.refl _ _).drew, fun _ => hr.goes (Below.refl _ _).drew, rfl, rfl⟩ ?_ ?_ ?_
 ·intro fl
  refine ⟨fun _ _ a w1 hs hA => ?_, fun _ _ a w1 hs hA => ?_, fun _ _ a w1 hs hA => ?_, fun _ _ a w1 hs hA => ?_, fun _ _ a w1 hs hA => ?_, fun _ _ a w1 hs hA => ?_, fun _ _ a w1 hs hA => ?_, fun _ _ a w1 hs hA => ?_, fun _ _ a w1 hs hA => ?_, fun _ _ a w1 hs hA => ?_, fun _ _ a w1 hs hA => ?_, fun _ _ a w1 hs hA => ?_, fun _ h => absurd rfl h, fun _ _ a w1 hs hA => ?_, fun _ _ a w1 hs hA => ?_, fun h => absurd rfl h, trivial⟩
  ·show Oper.wp _ _ _ _ _ _
   have e9 := (hA.old' 9).trans hf.2.2.2.1
   have hs1 : ZAt w0 u 2 sv w1 := hs.1
   clear hs
   obtain ⟨hbl, hlt, hge, hc0, hcf, hff⟩ := hs1
   clear hA
   have hb := Below.refl w1.heap.size w1
   go_simp
  ·show Oper.wp _ _ _ _ _ _
   have e9 := (hA.old' 9).trans hf.2.2.2.1
   have hs1 : ZAt w0 u 2 sv w1 := hs.1
   clear hs
   obtain ⟨hbl, hlt, hge, hc0, hcf, hff⟩ := hs1
   clear hA
   have hb := Below.refl w1.heap.size w1
   go_simp
  ·show Oper.wp _ _ _ _ _ _
   have e24 : a.tmps.getD 24 undef = .pointer (some ⟨u, 0, none⟩) := hA.got' 1 24
   have hs1 : ZAt w0 u 2 sv w1 := hs.1
   clear hs
   obtain ⟨hbl, hlt, hge, hc0, hcf, hff⟩ := hs1
   clear hA
   have hb := Below.refl w1.heap.size w1
   go_simp
  ·show Oper.wp _ _ _ _ _ _
   have e25 : a.tmps.getD 25 undef = .pointer (some ⟨u, 0, none⟩) := hA.got' 2 25
   have hs1 : ZAt w0 u 2 sv w1 := hs.1
   clear hs
   obtain ⟨hbl, hlt, hge, hc0, hcf, hff⟩ := hs1
   clear hA
   have hb := Below.refl w1.heap.size w1
   go_simp
  ·show Oper.wp _ _ _ _ _ _
   have e26 : a.tmps.getD 26 undef = .pointer (some ⟨u, 2, none⟩) := hA.got' 3 26
   have hs1 : ZAt w0 u 2 sv w1 := hs.1
   clear hs
   obtain ⟨hbl, hlt, hge, hc0, hcf, hff⟩ := hs1
   obtain ⟨p, q, r, hsv⟩ : ∃ p q r, sv = .slice p q r := by
    obtain ⟨-, xs, ho⟩ := hr
    rcases ho.2 with ⟨h, -⟩ | ⟨g, cap, cur, h, -⟩
    ·exact ⟨_, _, _, h⟩
    ·exact ⟨_, _, _, h⟩
   clear hA
   have hb := Below.refl w1.heap.size w1
   go_simp
  ·show Oper.wp _ _ _ _ _ _
   have e11 := (hA.old' 11).trans hf.2.2.2.2.2.1
   have hs1 : ZAt w0 u 2 sv w1 := hs.1
   clear hs
   obtain ⟨hbl, hlt, hge, hc0, hcf, hff⟩ := hs1
   clear hA
   have hb := Below.refl w1.heap.size w1
   go_simp
  ·show Oper.wp _ _ _ _ _ _
   have e1 := (hA.old' 1).trans hf.2.2.1
   have hs1 : ZAt w0 u 2 sv w1 := hs.1
   clear hs
   obtain ⟨hbl, hlt, hge, hc0, hcf, hff⟩ := hs1
   clear hA
   have hb := Below.refl w1.heap.size w1
   go_simp
  ·show Oper.wp _ _ _ _ _ _
   have e10 := (hA.old' 10).trans hf.2.2.2.2.1
   have hs1 : ZAt w0 u 2 sv w1 := hs.1
   clear hs
   obtain ⟨hbl, hlt, hge, hc0, hcf, hff⟩ := hs1
   clear hA
   have hb := Below.refl w1.heap.size w1
   go_simp
  ·show Oper.wp _ _ _ _ _ _
   have e29 : a.tmps.getD 29 undef = .slice (some ⟨ib, io, none⟩) n1 c1 := hA.got' 6 29
   have e30 : a.tmps.getD 30 undef = .int .i64 (i : Int) := hA.got' 7 30
   have hs1 : ZAt w0 u 2 sv w1 := hs.1
   clear hs
   obtain ⟨hbl, hlt, hge, hc0, hcf, hff⟩ := hs1
   clear hA
   have hb := Below.refl w1.heap.size w1
   go_simp
  ·show Oper.wp _ _ _ _ _ _
   have e31 : a.tmps.getD 31 undef = .pointer (some ⟨ib, io + i, none⟩) := hA.got' 8 31
   have hs1 : ZAt w0 u 2 sv w1 := hs.1
   clear hs
   obtain ⟨hbl, hlt, hge, hc0, hcf, hff⟩ := hs1
   have hdc := hdw w1 hbl
   clear hA
   have hb := Below.refl w1.heap.size w1
   go_simp
  ·show Oper.wp _ _ _ _ _ _
   have e28 : a.tmps.getD 28 undef = .int .i64 o := hA.got' 5 28
   have e32 : a.tmps.getD 32 undef = .bool dd := hA.got' 9 32
   have hs1 : ZAt w0 u 2 sv w1 := hs.1
   clear hs
   obtain ⟨hbl, hlt, hge, hc0, hcf, hff⟩ := hs1
   have e28b := e28
   simp only [Array.getD_eq_getD_getElem?] at e28b
   have e32b := e32
   simp only [Array.getD_eq_getD_getElem?] at e32b
   clear hA
   have hb := Below.refl w1.heap.size w1
   go_simp
  ·show Oper.wp _ _ _ _ _ _
   have e33 : a.tmps.getD 33 undef = .agg #[.string ⟨#[122, 111, 110, 101]⟩, .int .i64 o, .bool dd] := hA.got' 10 33
   have hs1 : ZAt w0 u 2 sv w1 := hs.1
   clear hs
   obtain ⟨hbl, hlt, hge, hc0, hcf, hff⟩ := hs1
   have e33b := e33
   simp only [Array.getD_eq_getD_getElem?] at e33b
   clear hA hdw hd
   have hb : Below w1.heap.size w1 (w1.alloc (Obj.cells #[.string ⟨#[122, 111, 110, 101]⟩, .int .i64 o, .bool dd] 190)) := (Below.refl _ _).alloc (Nat.le_refl _) _
   go_simp
   exact ⟨_, rfl, fun _ => ⟨_, ⟨_, rfl⟩, heap_alloc_new w1 _⟩⟩
  ·show Oper.wp _ _ _ _ _ _
   have e23 : a.tmps.getD 23 undef = .pointer (some ⟨u, 0, none⟩) := hA.got' 0 23
   have hs1 : ZAt w0 u 2 sv w1 := hs.1
   clear hs
   obtain ⟨hbl, hlt, hge, hc0, hcf, hff⟩ := hs1
   clear hA
   have hb := Below.refl w1.heap.size w1
   go_simp
  ·show Oper.wp _ _ _ _ _ _
   have e36 : a.tmps.getD 36 undef = .pointer (some ⟨u, 0, none⟩) := hA.got' 13 36
   have hs1 : ZAt w0 u 2 sv w1 := hs.1
   clear hs
   obtain ⟨hbl, hlt, hge, hc0, hcf, hff⟩ := hs1
   clear hA
   have hb := Below.refl w1.heap.size w1
   go_simp
 ·intro o ho a w1 hs hA
  simp at ho
  subst ho
  have e1 : a.tmps.getD 27 undef = sv := hA.got' 4 27
  have e2 : false = false → ∃ k c, a.tmps.getD 34 undef = .slice (some ⟨k, 0, none⟩) 1 c ∧ w1.heap[k]? = some (.cells #[.string ⟨#[122, 111, 110, 101]⟩, .int .i64 o, .bool dd] 190 (0, 0)) := hA.got' 11 34
  obtain ⟨hza, hzr, hfr, hce⟩ := hs
  obtain ⟨hne, xs, hown⟩ := hzr rfl
  obtain ⟨k, c, ek, hkb⟩ := e2 rfl
  have hu := hza.lt
  refine wp_append_lies w1 (.tmp 27) (.tmp 34) 146 rfl w0.heap.size 190 i0 _ 3 32 Tryz.underlying146 hi0 hz0 hz1 hz2 rfl (by omega) sv n xs e1 hown ⟨k, 0, none⟩ 1 c [.string ⟨#[122, 111, 110, 101]⟩, .int .i64 o, .bool dd] ek rfl (World.news_of_block hkb) (by simp [Value.oneCell']) (by omega) (by unfold maxLen; omega) (by omega) hza.below.size w1.heap.size rfl ?_
  intro g cap w2 hown2 hgr hat hlt
  have hub : w2.heap[u]? = w1.heap[u]? := hgr.block u hu (Ne.symm hne)
  have hgu : g ≠ u := by
   rcases hat with h | h
   ·exact fun e => hne (by rw [h, e])
   ·omega
  have hb2 : Below w0.heap.size w0 w2 := hza.below.grown hgr hza.below.size (fun k hk => own_base hown k hk)
  refine ⟨_, rfl, ⟨rfl, by simpa [Value.ownBlock] using hgu, _, hown2⟩, ⟨⟨hb2, Nat.lt_of_lt_of_le hu hgr.size, hza.ge, (World.cell?_of_block (w := w1) hub).trans hza.c0, (World.cell?_of_block (w := w1) hub).trans hza.cf, (World.frozen?_of_block (w := w1) hub).trans hza.ff⟩, fun h => (by cases h), (World.frozen?_of_block (w := w1) hub).trans hfr, (World.cell?_of_block (w := w1) hub).trans hce⟩, fun j uu huu => ?_⟩
  match j, huu with
  | 0, huu => exact huu
  | 1, huu => exact huu
  | 2, huu => exact huu
  | 3, huu => exact huu
  | 4, huu => exact huu
  | 5, huu => exact huu
  | 6, huu => exact huu
  | 7, huu => exact huu
  | 8, huu => exact huu
  | 9, huu => exact huu
  | 10, huu => exact huu
  | 11, huu => exact fun h => (by cases h)
  | 12, huu => exact absurd huu.1 (by decide)
  | 13, huu => exact huu
  | 14, huu => exact huu
  | _ + 15, huu => exact trivial
 ·intro a w1 hs hA
  have e1 : a.tmps.getD 37 undef = .pointer (some ⟨u, 2, none⟩) := hA.end' 14 37
  have e2 : true = true ∧ ZRow w0 u 190 3 (a.tmps.getD 35 undef) (n + 1) w1 := hA.end' 12 35
  obtain ⟨hza, -, hfr, hce⟩ := hs
  have hfo : ∀ t : Nat, t < 23 → a.tmps.getD t undef = a0.tmps.getD t undef := fun t ht => hA.old' t (by simp; omega)
  have hsz := hA.size.trans hf.1
  have hdf := hA.defers.trans hf.2.1
  obtain ⟨-, hrow⟩ := e2
  obtain ⟨nv, env⟩ : ∃ nv, a.tmps.getD 35 undef = nv := ⟨_, rfl⟩
  rw [env] at hrow
  obtain ⟨p, q, r, hnv⟩ : ∃ p q r, nv = .slice p q r := by
   obtain ⟨-, xs, ho⟩ := hrow
   rcases ho.2 with ⟨h, -⟩ | ⟨g, cap, cur, h, -⟩
   ·exact ⟨_, _, _, h⟩
   ·exact ⟨_, _, _, h⟩
  refine Oper.wp_mono (K := fun a' w' => a' = a ∧ w' = w1.setCell ⟨u, 2, none⟩ nv) (fun a' w' hq => ?_) ?_
  ·obtain ⟨rfl, rfl⟩ := hq
   have hst := fun k (_ : k < w1.heap.size) (hk : k ≠ u) => Below.heap_setCell w1 ⟨u, 2, none⟩ nv k hk
   have hlt := hza.lt
   have hcf := hza.cf
   have hff := hza.ff
   have hc0 := hza.c0
   refine ⟨⟨hsz, hdf, hfo⟩, nv, ⟨hza.below.setCell hza.ge _, by simpa [World.setCell] using hza.lt, hza.ge, ?_, ?_, ?_⟩, hrow.kept hst, ?_, ?_⟩
   ·simp [go_sem, hc0, hcf]
   ·simp [go_sem, hcf]
   ·simp [go_sem, hff]
   ·rw [← hfr]; simp [go_sem]
   ·rw [← hce]; simp [go_sem]
  ·subst hnv
   obtain ⟨hbl, hlt, hge, hc0, hcf, hff⟩ := hza
   clear hA hrow hfo hf hfr hce
   go_simp
theorem zr10 {sv : Value} {n : Nat} {ib io n1 c1 i : Nat} {o : Int} (ho : True) (hi : i < n1) (hn1 : n1 < 100000) (hib : ib < w0.heap.size) (hd : ∃ dd, w0.cell? ⟨ib, io + i, none⟩ = some (.int .i64 dd)) (hn : n < 100000) {a0 : Act} {w : World}
  (hf : Kn 64 a0 [(3, .slice (some ⟨ib, io, none⟩) n1 c1), (9, .pointer (some ⟨u, 0, none⟩)), (12, .int .i64 (i : Int)), (13, .int .i64 o)]) (hz : ZAt w0 u 3 sv w) (hr : ZRow w0 u 192 4 sv n w)
  (ops : Array Oper) (hops : opsAt 10 (Tryz.f69.body.getD .skip) = some ops) :
  (Code.region 10 ops true).wp Tryz.prog (Exit.then (fun a' w' => (a'.tmps.size = 64 ∧ a'.defers = [] ∧ ∀ t, t < 46 → a'.tmps.getD t undef = a0.tmps.getD t undef) ∧ ∃ sv', ZAt w0 u 3 sv' w' ∧ ZRow w0 u 192 4 sv' (n + 1) w' ∧
   w'.frozen? ⟨u, 2, none⟩ = w.frozen? ⟨u, 2, none⟩ ∧ w'.cell? ⟨u, 2, none⟩ = w.cell? ⟨u, 2, none⟩) (fun _ _ _ => False)) a0 w := by
 simp [Tryz.f69, opsAt] at hops
 subst hops
 obtain ⟨i0, hi0, hz0, hz1, hz2⟩ := info_parts info192
 obtain ⟨dd, hd⟩ := hd
 have j0 : (0 : Int) ≤ (i : Int) := by omega
 have j1 : (i : Int) < (n1 : Int) := by omega
 have hdw : ∀ w', Below w0.heap.size w0 w' → w'.cell? ⟨ib, io + i, none⟩ = some (.int .i64 dd) := fun w' hb => (hb.cell (p := ⟨ib, _, none⟩) hib).trans hd
 refine wp_region_piv (by kernel_rfl) 64 hf.1 16 13
  (fun fl j v w' => match j with | 0 => v = .pointer (some ⟨u, 0, none⟩) | 1 => v = .pointer (some ⟨u, 0, none⟩) | 2 => v = .pointer (some ⟨u, 0, none⟩) | 3 => v = .pointer (some ⟨u, 3, none⟩) | 4 => v = sv | 5 => v = .int .i64 o | 6 => v = .slice (some ⟨ib, io, none⟩) n1 c1 | 7 => v = .int .i64 (i : Int) | 8 => v = .pointer (some ⟨ib, io + i, none⟩) | 9 => v = .int .i64 dd | 10 => v = .int .u8 (IntKind.u8.wrap dd) | 11 => v = .agg #[.int .i64 o, .int .u8 (IntKind.u8.wrap dd), .bool false, .bool false] | 14 => v = .pointer (some ⟨u, 0, none⟩) | 15 => v = .pointer (some ⟨u, 3, none⟩) | 12 => (fl = false → ∃ k c, v = .slice (some ⟨k, 0, none⟩) 1 c ∧ w'.heap[k]? = some (.cells #[.int .i64 o, .int .u8 (IntKind.u8.wrap dd), .bool false, .bool false] 192 (0, 0))) | 13 => (fl = true ∧ ZRow w0 u 192 4 v (n + 1) w') | _ => True)
  (fun fl w' => ZAt w0 u 3 sv w' ∧ (fl = false → ZRow w0 u 192 4 sv n w') ∧ w'.frozen? ⟨u, 2, none⟩ = w.frozen? ⟨u, 2, none⟩ ∧ w'.cell? ⟨u, 2, none⟩ = w.cell? ⟨u, 2, none⟩)
  (fun fl w1 w' => Below w1.heap.size w1 w') (fun _ _ => Below.refl _ _)
  (fun fl w1 w' h hb => ⟨⟨h.1.goes hb, fun hfl => (h.2.1 hfl).goes hb, (hb.frozen (p := ⟨u, 2, none⟩) h.1.lt).trans h.2.2.1, (hb.cell (p := ⟨u, 2, none⟩) h.1.lt).trans h.2.2.2⟩, fun j v hv => by
   match j, hv with
   | 0, hv => exact hv
   | 1, hv => exact hv
   | 2, hv => exact hv
   | 3, hv => exact hv
   | 4, hv => exact hv
   | 5, hv => exact hv
   | 6, hv => exact hv
   | 7, hv => exact hv
   | 8, hv => exact hv
   | 9, hv => exact hv
   | 10, hv => exact hv
   | 11, hv => exact hv
   | 12, hv => exact fun hfl => (hv hfl).imp fun k h => h.imp fun c h => ⟨h.1, (hb.block k ((Array.getElem?_eq_some_iff.1 h.2).1)).trans h.2⟩
   | 13, hv => exact ⟨hv.1, hv.2.goes hb⟩
   | 14, hv => exact hv
   | 15, hv => exact hv
   | _ + 16, hv => exact trivial⟩)
  (by kernel_rfl) (by kernel_rfl) (by kernel_rfl) (by kernel_rfl) (by kernel_rfl) (by kernel_rfl) ⟨hz.goes (Below.refl _ _).drew, fun _ => hr.goes (Below.refl _ _).drew, rfl, rfl⟩ ?_ ?_ ?_
 ·intro fl
  refine ⟨fun _ _ a w1 hs hA => ?_, fun _ _ a w1 hs hA => ?_, fun _ _ a w1 hs hA => ?_, fun _ _ a w1 hs hA => ?_, fun _ _ a w1 hs hA => ?_, fun _ _ a w1 hs hA => ?_, fun _ _ a w1 hs hA => ?_, fun _ _ a w1 hs hA => ?_, fun _ _ a w1 hs hA => ?_, fun _ _ a w1 hs hA => ?_, fun _ _ a w1 hs hA => ?_, fun _ _ a w1 hs hA => ?_, fun _ _ a w1 hs hA => ?_, fun _ h => absurd rfl h, fun _ _ a w1 hs hA => ?_, fun _ _ a w1 hs hA => ?_, fun h => absurd rfl h, trivial⟩
  ·show Oper.wp _ _ _ _ _ _
   have e9 := (hA.old' 9).trans hf.2.2.2.1
   have hs1 : ZAt w0 u 3 sv w1 := hs.1
   clear hs
   obtain ⟨hbl, hlt, hge, hc0, hcf, hff⟩ := hs1
   clear hA
   have hb := Below.refl w1.heap.size w1
   go_simp
  ·show Oper.wp _ _ _ _ _ _
   have e9 := (hA.old' 9).trans hf.2.2.2.1
   have hs1 : ZAt w0 u 3 sv w1 := hs.1
   clear hs
   obtain ⟨hbl, hlt, hge, hc0, hcf, hff⟩ := hs1
   clear hA
   have hb := Below.refl w1.heap.size w1
   go_simp
  ·show Oper.wp _ _ _ _ _ _
   have e47 : a.tmps.getD 47 undef = .pointer (some ⟨u, 0, none⟩) := hA.got' 1 47
   have hs1 : ZAt w0 u 3 sv w1 := hs.1
   clear hs
   obtain ⟨hbl, hlt, hge, hc0, hcf, hff⟩ := hs1
   clear hA
   have hb := Below.refl w1.heap.size w1
   go_simp
  ·show Oper.wp _ _ _ _ _ _
   have e48 : a.tmps.getD 48 undef = .pointer (some ⟨u, 0, none⟩) := hA.got' 2 48
   have hs1 : ZAt w0 u 3 sv w1 := hs.1
   clear hs
   obtain ⟨hbl, hlt, hge, hc0, hcf, hff⟩ := hs1
   clear hA
   have hb := Below.refl w1.heap.size w1
   go_simp
  ·show Oper.wp _ _ _ _ _ _
   have e49 : a.tmps.getD 49 undef = .pointer (some ⟨u, 3, none⟩) := hA.got' 3 49
   have hs1 : ZAt w0 u 3 sv w1 := hs.1
   clear hs
   obtain ⟨hbl, hlt, hge, hc0, hcf, hff⟩ := hs1
   obtain ⟨p, q, r, hsv⟩ : ∃ p q r, sv = .slice p q r := by
    obtain ⟨-, xs, ho⟩ := hr
    rcases ho.2 with ⟨h, -⟩ | ⟨g, cap, cur, h, -⟩
    ·exact ⟨_, _, _, h⟩
    ·exact ⟨_, _, _, h⟩
   clear hA
   have hb := Below.refl w1.heap.size w1
   go_simp
  ·show Oper.wp _ _ _ _ _ _
   have e13 := (hA.old' 13).trans hf.2.2.2.2.2.1
   have hs1 : ZAt w0 u 3 sv w1 := hs.1
   clear hs
   obtain ⟨hbl, hlt, hge, hc0, hcf, hff⟩ := hs1
   clear hA
   have hb := Below.refl w1.heap.size w1
   go_simp
  ·show Oper.wp _ _ _ _ _ _
   have e3 := (hA.old' 3).trans hf.2.2.1
   have hs1 : ZAt w0 u 3 sv w1 := hs.1
   clear hs
   obtain ⟨hbl, hlt, hge, hc0, hcf, hff⟩ := hs1
   clear hA
   have hb := Below.refl w1.heap.size w1
   go_simp
  ·show Oper.wp _ _ _ _ _ _
   have e12 := (hA.old' 12).trans hf.2.2.2.2.1
   have hs1 : ZAt w0 u 3 sv w1 := hs.1
   clear hs
   obtain ⟨hbl, hlt, hge, hc0, hcf, hff⟩ := hs1
   clear hA
   have hb := Below.refl w1.heap.size w1
   go_simp
  ·show Oper.wp _ _ _ _ _ _
   have e52 : a.tmps.getD 52 undef = .slice (some ⟨ib, io, none⟩) n1 c1 := hA.got' 6 52
   have e53 : a.tmps.getD 53 undef = .int .i64 (i : Int) := hA.got' 7 53
   have hs1 : ZAt w0 u 3 sv w1 := hs.1
   clear hs
   obtain ⟨hbl, hlt, hge, hc0, hcf, hff⟩ := hs1
   clear hA
   have hb := Below.refl w1.heap.size w1
   go_simp
  ·show Oper.wp _ _ _ _ _ _
   have e54 : a.tmps.getD 54 undef = .pointer (some ⟨ib, io + i, none⟩) := hA.got' 8 54
   have hs1 : ZAt w0 u 3 sv w1 := hs.1
   clear hs
   obtain ⟨hbl, hlt, hge, hc0, hcf, hff⟩ := hs1
   have hdc := hdw w1 hbl
   clear hA
   have hb := Below.refl w1.heap.size w1
   go_simp
  ·show Oper.wp _ _ _ _ _ _
   have e55 : a.tmps.getD 55 undef = .int .i64 dd := hA.got' 9 55
   have hs1 : ZAt w0 u 3 sv w1 := hs.1
   clear hs
   obtain ⟨hbl, hlt, hge, hc0, hcf, hff⟩ := hs1
   clear hA
   have hb := Below.refl w1.heap.size w1
   go_simp
  ·show Oper.wp _ _ _ _ _ _
   have e51 : a.tmps.getD 51 undef = .int .i64 o := hA.got' 5 51
   have e56 : a.tmps.getD 56 undef = .int .u8 (IntKind.u8.wrap dd) := hA.got' 10 56
   have hs1 : ZAt w0 u 3 sv w1 := hs.1
   clear hs
   obtain ⟨hbl, hlt, hge, hc0, hcf, hff⟩ := hs1
   have e51b := e51
   simp only [Array.getD_eq_getD_getElem?] at e51b
   have e56b := e56
   simp only [Array.getD_eq_getD_getElem?] at e56b
   clear hA
   have hb := Below.refl w1.heap.size w1
   go_simp
  ·show Oper.wp _ _ _ _ _ _
   have e57 : a.tmps.getD 57 undef = .agg #[.int .i64 o, .int .u8 (IntKind.u8.wrap dd), .bool false, .bool false] := hA.got' 11 57
   have hs1 : ZAt w0 u 3 sv w1 := hs.1
   clear hs
   obtain ⟨hbl, hlt, hge, hc0, hcf, hff⟩ := hs1
   have e57b := e57
   simp only [Array.getD_eq_getD_getElem?] at e57b
   clear hA hdw hd
   have hb : Below w1.heap.size w1 (w1.alloc (Obj.cells #[.int .i64 o, .int .u8 (IntKind.u8.wrap dd), .bool false, .bool false] 192)) := (Below.refl _ _).alloc (Nat.le_refl _) _
   go_simp
   exact ⟨_, rfl, fun _ => ⟨_, ⟨_, rfl⟩, heap_alloc_new w1 _⟩⟩
  ·show Oper.wp _ _ _ _ _ _
   have e46 : a.tmps.getD 46 undef = .pointer (some ⟨u, 0, none⟩) := hA.got' 0 46
   have hs1 : ZAt w0 u 3 sv w1 := hs.1
   clear hs
   obtain ⟨hbl, hlt, hge, hc0, hcf, hff⟩ := hs1
   clear hA
   have hb := Below.refl w1.heap.size w1
   go_simp
  ·show Oper.wp _ _ _ _ _ _
   have e60 : a.tmps.getD 60 undef = .pointer (some ⟨u, 0, none⟩) := hA.got' 14 60
   have hs1 : ZAt w0 u 3 sv w1 := hs.1
   clear hs
   obtain ⟨hbl, hlt, hge, hc0, hcf, hff⟩ := hs1
   clear hA
   have hb := Below.refl w1.heap.size w1
   go_simp
 ·intro o ho a w1 hs hA
  simp at ho
  subst ho
  have e1 : a.tmps.getD 50 undef = sv := hA.got' 4 50
  have e2 : false = false → ∃ k c, a.tmps.getD 58 undef = .slice (some ⟨k, 0, none⟩) 1 c ∧ w1.heap[k]? = some (.cells #[.int .i64 o, .int .u8 (IntKind.u8.wrap dd), .bool false, .bool false] 192 (0, 0)) := hA.got' 12 58
  obtain ⟨hza, hzr, hfr, hce⟩ := hs
  obtain ⟨hne, xs, hown⟩ := hzr rfl
  obtain ⟨k, c, ek, hkb⟩ := e2 rfl
  have hu := hza.lt
  refine wp_append_lies w1 (.tmp 50) (.tmp 58) 147 rfl w0.heap.size 192 i0 _ 4 16 Tryz.underlying147 hi0 hz0 hz1 hz2 rfl (by omega) sv n xs e1 hown ⟨k, 0, none⟩ 1 c [.int .i64 o, .int .u8 (IntKind.u8.wrap dd), .bool false, .bool false] ek rfl (World.news_of_block hkb) (by simp [Value.oneCell']) (by omega) (by unfold maxLen; omega) (by omega) hza.below.size w1.heap.size rfl ?_
  intro g cap w2 hown2 hgr hat hlt
  have hub : w2.heap[u]? = w1.heap[u]? := hgr.block u hu (Ne.symm hne)
  have hgu : g ≠ u := by
   rcases hat with h | h
   ·exact fun e => hne (by rw [h, e])
   ·omega
  have hb2 : Below w0.heap.size w0 w2 := hza.below.grown hgr hza.below.size (fun k hk => own_base hown k hk)
  refine ⟨_, rfl, ⟨rfl, by simpa [Value.ownBlock] using hgu, _, hown2⟩, ⟨⟨hb2, Nat.lt_of_lt_of_le hu hgr.size, hza.ge, (World.cell?_of_block (w := w1) hub).trans hza.c0, (World.cell?_of_block (w := w1) hub).trans hza.cf, (World.frozen?_of_block (w := w1) hub).trans hza.ff⟩, fun h => (by cases h), (World.frozen?_of_block (w := w1) hub).trans hfr, (World.cell?_of_block (w := w1) hub).trans hce⟩, fun j uu huu => ?_⟩
  match j, huu with
  | 0, huu => exact huu
  | 1, huu => exact huu
  | 2, huu => exact huu
  | 3, huu => exact huu
  | 4, huu => exact huu
  | 5, huu => exact huu
  | 6, huu => exact huu
  | 7, huu => exact huu
  | 8, huu => exact huu
  | 9, huu => exact huu
  | 10, huu => exact huu
  | 11, huu => exact huu
  | 12, huu => exact fun h => (by cases h)
  | 13, huu => exact absurd huu.1 (by decide)
  | 14, huu => exact huu
  | 15, huu => exact huu
  | _ + 16, huu => exact trivial
 ·intro a w1 hs hA
  have e1 : a.tmps.getD 61 undef = .pointer (some ⟨u, 3, none⟩) := hA.end' 15 61
  have e2 : true = true ∧ ZRow w0 u 192 4 (a.tmps.getD 59 undef) (n + 1) w1 := hA.end' 13 59
  obtain ⟨hza, -, hfr, hce⟩ := hs
  have hfo : ∀ t : Nat, t < 46 → a.tmps.getD t undef = a0.tmps.getD t undef := fun t ht => hA.old' t (by simp; omega)
  have hsz := hA.size.trans hf.1
  have hdf := hA.defers.trans hf.2.1
  obtain ⟨-, hrow⟩ := e2
  obtain ⟨nv, env⟩ : ∃ nv, a.tmps.getD 59 undef = nv := ⟨_, rfl⟩
  rw [env] at hrow
  obtain ⟨p, q, r, hnv⟩ : ∃ p q r, nv = .slice p q r := by
   obtain ⟨-, xs, ho⟩ := hrow
   rcases ho.2 with ⟨h, -⟩ | ⟨g, cap, cur, h, -⟩
   ·exact ⟨_, _, _, h⟩
   ·exact ⟨_, _, _, h⟩
  refine Oper.wp_mono (K := fun a' w' => a' = a ∧ w' = w1.setCell ⟨u, 3, none⟩ nv) (fun a' w' hq => ?_) ?_
  ·obtain ⟨rfl, rfl⟩ := hq
   have hst := fun k (_ : k < w1.heap.size) (hk : k ≠ u) => Below.heap_setCell w1 ⟨u, 3, none⟩ nv k hk
   have hlt := hza.lt
   have hcf := hza.cf
   have hff := hza.ff
   have hc0 := hza.c0
   refine ⟨⟨hsz, hdf, hfo⟩, nv, ⟨hza.below.setCell hza.ge _, by simpa [World.setCell] using hza.lt, hza.ge, ?_, ?_, ?_⟩, hrow.kept hst, ?_, ?_⟩
   ·simp [go_sem, hc0, hcf]
   ·simp [go_sem, hcf]
   ·simp [go_sem, hff]
   ·rw [← hfr]; simp [go_sem]
   ·rw [← hce]; simp [go_sem]
  ·subst hnv
   obtain ⟨hbl, hlt, hge, hc0, hcf, hff⟩ := hza
   clear hA hrow hfo hf hfr hce
   go_simp
end
end Go.Proofs.YtcjdideliifkhaaGreatDoor
