import Derived.Laws.BitsLemmas
import Derived.Laws.StructEq
import Derived.OrdersHeld
import Derived.Test.YtcjdideliifkhaaGreatDoorB01
set_option maxRecDepth 100000
set_option maxHeartbeats 16000000
namespace Go.Proofs.YtcjdideliifkhaaGreatDoorW.PrintLast
section
variable {P : Program} {ops : Array Oper} {Q : Exit → Act → World → Prop} {md : Region.Mode} {S : World → Prop} {ds : List Nat}
end
section
variable {P : Program} {ops : Array Oper} {Q : Exit → Act → World → Prop} {md : Region.Mode} {S : World → Prop} {ds : List Nat}
theorem enters_ {f : FuncId} {fn : Func} (hf : P.funcs[f]? = some fn) (hname : (fn.name == "runtime.NumGoroutine") = false) (hb : fn.body.isSome = true) (args : Array Value) (w : World) : (callFunc f args).run P w = .ok (.enter f args) w := by
 have h1 : fn.name ≠ "runtime.NumGoroutine" := by simpa using hname
 obtain ⟨c, hc⟩ := Option.isSome_iff_exists.1 hb
 simp [callFunc, hf, h1, hc]
theorem goesL_ {rest : List Oper} {oi : Oper} {a : Act} {w : World} (N : Option Tmp) (hd : oi.dst = N) (hg : oi.guard = none) {f : FuncId} {fn : Func} {as : Array Operand} {ts : Array TypeId} (hf : P.funcs[f]? = some fn) (hname : (fn.name == "runtime.NumGoroutine") = false) (hb : fn.body.isSome = true) (args : Array Value)
  (hop : oi.op = .call { callee := .value (.func f), args := as, argTypes := ts }) (hargs : as.map a.eval = args)
  (h : Calls P f args w fun e w' => ∃ v, e = .returned v ∧ wpList P ops Q rest (a.put N v) w') : wpList P ops Q (oi :: rest) a w := by
 refine wpList_plain hg fun K hK => ?_
 have he := enters_ hf hname hb args w
 have hrun : (execOp a.eval oi).run P w = .ok (.enter f args) w := by
  unfold execOp
  simp [hop, resolve, Deferred.ofValue, invoke, Act.eval, hargs, he]
 unfold Oper.wp
 rw [hrun, Oper.upon_enter]
 refine h.mono fun e w'' hh => ?_
 obtain ⟨v, rfl, hk⟩ := hh
 subst hd
 exact hK _ _ hk
theorem i64_w (n : Int) : IntKind.i64.wrap n = Go.RowKit.wrap64 n := by unfold Go.RowKit.wrap64; exact IntKind.wrap_i64 n
theorem i32_w (n : Int) : IntKind.i32.wrap n = Go.RowKit.wrap32 n := by unfold Go.RowKit.wrap32; exact IntKind.wrap_i32 n
end
open Go.Proofs.YtcjdideliifkhaaGreatDoorW.PrintWords (Aside0)
section
variable {md : Region.Mode} {ops : Array Oper} {T : Bool × List (List Nat × List Nat)} {l l' li lj lk : Array Bool} {ds : List Nat} {i j k : Nat}
theorem gd (l : Array Bool) (j : Nat) (b : Bool) : l.getD j b = l.toList.getD j b := by simp [Array.getD_eq_getD_getElem?, List.getD_eq_getElem?_getD]
end
section
variable {P : Program} {ops : Array Oper} {Q : Exit → Act → World → Prop} {md : Region.Mode} {S : World → Prop} {ds : List Nat} {T : Bool × List (List Nat × List Nat)}
end
end Go.Proofs.YtcjdideliifkhaaGreatDoorW.PrintLast
namespace Go.Proofs.YtcjdideliifkhaaGreatDoorW.PrintWords
open Go.RowKit
namespace Kd
section
variable {α : Type} {d : Kd α} {e base g o n cap : Nat} {ok okp : Nat → Prop} {w W : World} {v : Value} {xs : List α}
end
section
variable {α : Type} {enc : α → Value} {h1 : ∀ x, (enc x).oneCell' = true} {e base g o n cap : Nat} {ok : Nat → Prop} {W : World} {xs : List α}
end
end Kd
end Go.Proofs.YtcjdideliifkhaaGreatDoorW.PrintWords
namespace Go.Proofs.YtcjdideliifkhaaGreatDoorW.PrintWords
open Go.RowKit
namespace Kd
def tag {α : Type} (f : Nat → Nat) (d : Kd α) : Kd (α × Nat) where
 sz := d.sz
 E := d.E
 K := fun w x cs => d.K w x.1 cs
 M := fun w base ok x cs => d.M w base (fun k => ok k ∧ f k = x.2) x.1 cs
 K_len := fun h => d.K_len h
 K_one := fun h => d.K_one h
 K_below := fun hb h => d.K_below hb h
 K_of_M := fun h => d.K_of_M h
 M_mono := fun hok h => d.M_mono (fun k hk => ⟨hok k hk.1, hk.2⟩) h
 M_bound := fun h => d.M_mono (fun _ hk => ⟨⟨hk.1.1, hk.2⟩, hk.1.2⟩) (d.M_bound h)
 M_move := fun hm h => d.M_move (fun k hk => hm k hk.1) h
 M_lower := fun hb h => d.M_lower hb h
def raw (sz : Nat) : Kd (List Value) where
 sz := sz
 E := []
 K := fun _ x cs => cs = x ∧ cs.length = sz ∧ ∀ u ∈ cs, u.oneCell' = true
 M := fun _ _ _ x cs => cs = x ∧ cs.length = sz ∧ ∀ u ∈ cs, u.oneCell' = true
 K_len := fun h => h.2.1
 K_one := fun h => h.2.2
 K_below := fun _ h => h
 K_of_M := fun h => h
 M_mono := fun _ h => h
 M_bound := fun h => h
 M_move := fun _ h => h
 M_lower := fun _ h => h
def S {α : Type} (d : Kd α) (e : Nat) (w : World) (base : Nat) (ok : Nat → Prop) (v : Value) (xs : List α) : Prop := ∃ f, (tag f d).R e w base ok v xs.zipIdx
section
variable {α β : Type} {d : Kd α} {d' : Kd β} {e e' : Nat} {w w1 W : World} {base b : Nat} {ok ok' okv oku : Nat → Prop} {u v : Value} {xs : List α} {ys : List β}
theorem S_nil (d : Kd α) (e : Nat) (w : World) (base : Nat) (ok : Nat → Prop) : S d e w base ok (.slice none 0 0) [] := ⟨fun _ => 0, R_nil _ _ _ _ _⟩
end
section
variable {α β : Type} {d : Kd α} {d' : Kd β} {e e' g : Nat} {w w1 W : World} {base b : Nat} {ok ok' okv oku : Nat → Prop} {u v : Value} {xs : List α} {ys : List β}
end
section
variable {P : Program} {ops : Array Oper} {rest : List Oper} {o : Oper} {a : Act} {Q : Exit → Act → World → Prop} {Kc : Act → World → Prop} {α : Type}
end
def gap {α : Type} (f : Nat → Nat) (d : Kd α) (i : Nat) (c : List Value) : Kd (α × Nat) where
 sz := d.sz
 E := d.E
 K := fun w x cs => (x.2 = i → cs = c ∧ cs.length = d.sz ∧ ∀ u ∈ cs, u.oneCell' = true) ∧ (x.2 ≠ i → d.K w x.1 cs)
 M := fun w base ok x cs => (x.2 = i → cs = c ∧ cs.length = d.sz ∧ ∀ u ∈ cs, u.oneCell' = true) ∧ (x.2 ≠ i → d.M w base (fun k => ok k ∧ f k = x.2) x.1 cs)
 K_len := fun {w x cs} h => by
  by_cases hx : x.2 = i
  ·exact (h.1 hx).2.1
  ·exact d.K_len (h.2 hx)
 K_one := fun {w x cs} h => by
  by_cases hx : x.2 = i
  ·exact (h.1 hx).2.2
  ·exact d.K_one (h.2 hx)
 K_below := fun hb h => ⟨h.1, fun hx => d.K_below hb (h.2 hx)⟩
 K_of_M := fun h => ⟨h.1, fun hx => d.K_of_M (h.2 hx)⟩
 M_mono := fun hok h => ⟨h.1, fun hx => d.M_mono (fun k hk => ⟨hok k hk.1, hk.2⟩) (h.2 hx)⟩
 M_bound := fun h => ⟨h.1, fun hx => d.M_mono (fun _ hk => ⟨⟨hk.1.1, hk.2⟩, hk.1.2⟩) (d.M_bound (h.2 hx))⟩
 M_move := fun hm h => ⟨h.1, fun hx => d.M_move (fun k hk => hm k hk.1) (h.2 hx)⟩
 M_lower := fun hb h => ⟨h.1, fun hx => d.M_lower hb (h.2 hx)⟩
def H {α : Type} (d : Kd α) (e : Nat) (w : World) (base : Nat) (ok : Nat → Prop) (v : Value) (xs : List α) (i : Int) (oki : Nat → Prop) (c : List Value) : Prop :=
 (∀ k, oki k → ok k) ∧ ∃ f, (gap f d i.toNat c).R e w base (fun k => ok k ∧ ¬ oki k) v xs.zipIdx
section
variable {α β : Type} {d : Kd α} {e e' g n cap : Nat} {w w1 W : World} {base : Nat} {ok ok' oki okp : Nat → Prop} {u v : Value} {xs : List α} {i : Int} {c : List Value}
end
section
variable {P : Program} {ops : Array Oper} {rest : List Oper} {o : Oper} {a : Act} {Q : Exit → Act → World → Prop} {α : Type}
end
end Kd
end Go.Proofs.YtcjdideliifkhaaGreatDoorW.PrintWords
namespace Go.Proofs.YtcjdideliifkhaaGreatDoorW.PrintWords
open Go.RowKit
namespace Kd
theorem reps_one {α : Type} {R : α → List Value → Prop} {size : Nat} {ps : List α} {cs : List Value} (h : Reps R size ps cs) (hs0 : 0 < size) (hR : ∀ p c, R p c → ∀ u ∈ c, u.oneCell' = true) : ∀ u ∈ cs, u.oneCell' = true := by
 intro u hu
 obtain ⟨q, hq, rfl⟩ := List.mem_iff_getElem.1 hu
 have hql : q / size < ps.length := by
  rw [Nat.div_lt_iff_lt_mul hs0, ← h.1]
  exact hq
 refine hR _ _ (h.2 (q / size) _ (List.getElem?_eq_getElem hql)) _ ?_
 rw [List.mem_iff_getElem?]
 refine ⟨q % size, ?_⟩
 rw [List.getElem?_take, if_pos (Nat.mod_lt _ hs0), List.getElem?_drop, Nat.mul_comm, Nat.div_add_mod, List.getElem?_eq_getElem hq]
def arr {α : Type} (n : Nat) (d : Kd α) (hs : 0 < d.sz) : Kd (List α) where
 sz := n * d.sz
 E := d.E
 K := fun w xs cs => xs.length = n ∧ Reps (d.K w) d.sz xs cs
 M := fun w base ok xs cs => xs.length = n ∧ Reps (d.M w base ok) d.sz xs cs
 K_len := fun h => by rw [← h.1]; exact h.2.1
 K_one := fun h => reps_one h.2 hs (fun _ _ hk => d.K_one hk)
 K_below := fun hb h => ⟨h.1, h.2.imp_ (fun _ _ hk => d.K_below hb hk)⟩
 K_of_M := fun h => ⟨h.1, h.2.imp_ (fun _ _ hk => d.K_of_M hk)⟩
 M_mono := fun hok h => ⟨h.1, h.2.imp_ (fun _ _ hk => d.M_mono hok hk)⟩
 M_bound := fun h => ⟨h.1, h.2.imp_ (fun _ _ hk => d.M_bound hk)⟩
 M_move := fun hm h => ⟨h.1, h.2.imp_ (fun _ _ hk => d.M_move hm hk)⟩
 M_lower := fun hb h => ⟨h.1, h.2.imp_ (fun _ _ hk => d.M_lower hb hk)⟩
section
variable {α : Type} {n : Nat} {d : Kd α} {hs : 0 < d.sz} {w : World} {base : Nat} {ok : Nat → Prop} {xs : List α} {cs : List Value}
end
section
variable {α : Type} {n : Nat} {enc : α → Value} {h1 : ∀ x, (enc x).oneCell' = true} {hs : 0 < (scalar enc h1).sz} {w : World} {base : Nat} {ok : Nat → Prop} {xs : List α} {cs : List Value}
end
end Kd
end Go.Proofs.YtcjdideliifkhaaGreatDoorW.PrintWords
namespace Go.Proofs.YtcjdideliifkhaaGreatDoorW.PrintWords
open Go.RowKit
section
variable {P : Program}
end
namespace Kd
section
variable {P : Program} {ops : Array Oper} {rest : List Oper} {o : Oper} {a : Act} {Q : Exit → Act → World → Prop} {Kc : Act → World → Prop} {α : Type}
end
section
variable {α : Type} {d : Kd α} {e : Nat} {w : World} {base : Nat} {ok : Nat → Prop} {v : Value} {xs : List α}
end
section
variable {P : Program} {ops : Array Oper} {rest : List Oper} {o : Oper} {a : Act} {Q : Exit → Act → World → Prop} {Kc : Act → World → Prop} {α : Type}
end
end Kd
end Go.Proofs.YtcjdideliifkhaaGreatDoorW.PrintWords
namespace Go.Proofs.YtcjdideliifkhaaGreatDoorW.PrintWords
open Go.RowKit
namespace Kd
section
variable {α : Type} {d : Kd α} {e base g n c : Nat} {ok : Nat → Prop} {w w0 W : World} {A : Option Addr} {xs : List α}
end
end Kd
end Go.Proofs.YtcjdideliifkhaaGreatDoorW.PrintWords
namespace Go.Proofs.YtcjdideliifkhaaGreatDoorW.PrintWords
open Go.RowKit
section
variable {w W W2 : World} {S S2 S' : Nat → Prop}
end
namespace Kd
section
variable {α : Type} {d : Kd α} {e base n c : Nat} {ok oki S S2 : Nat → Prop} {w w0 W W1 W2 : World} {v : Value} {A : Option Addr} {xs : List α} {i : Int} {cs : List Value}
end
end Kd
end Go.Proofs.YtcjdideliifkhaaGreatDoorW.PrintWords
namespace Go.Proofs.YtcjdideliifkhaaGreatDoorW.PrintWords
open Go.RowKit
def Foot (P : World → Prop) (W : World) (ok : Nat → Prop) : Prop := ∀ W' : World, (∀ k, ok k → k < W.heap.size → W'.heap[k]? = W.heap[k]?) → P W'
theorem heap_lt {W W1 : World} {k : Nat} (h : W1.heap[k]? = W.heap[k]?) (hlt : k < W.heap.size) : k < W1.heap.size := by
 rw [Array.getElem?_eq_getElem hlt] at h
 exact (Array.getElem?_eq_some_iff.1 h).1
namespace Foot
variable {P Q : World → Prop} {W W1 : World} {ok ok' : Nat → Prop}
theorem bound (h : Foot P W ok) : Foot P W (fun k => ok k ∧ k < W.heap.size) := fun W' hW => h W' (fun k hk hlt => hW k ⟨hk, hlt⟩ hlt)
theorem step (h : Foot P W ok) (hm : ∀ k, ok k → k < W.heap.size → W1.heap[k]? = W.heap[k]?) : Foot P W1 ok := fun W' hW => h W' (fun k hk hlt => (hW k hk (heap_lt (hm k hk hlt) hlt)).trans (hm k hk hlt))
theorem imp (h : Foot P W ok) (hi : ∀ W', P W' → Q W') : Foot Q W ok := fun W' hW => hi W' (h W' hW)
theorem old (h : Foot P W ok) (hb : Below W.heap.size W W1) : Foot P W1 (fun k => ok k ∧ k < W.heap.size) := (h.bound).step (fun k _ hlt => hb.block k hlt)
end Foot
namespace Kd
def F {α : Type} (d : Kd α) (W : World) (ok : Nat → Prop) (A : Option Addr) (n : Nat) (xs : List α) : Prop := Foot (fun W => d.C W A n xs) W ok
def FK {α : Type} (d : Kd α) (W : World) (ok : Nat → Prop) (x : α) (c : List Value) : Prop := Foot (fun W => d.K W x c) W ok
section
variable {α β : Type} {d : Kd α} {e base n n' cc g N : Nat} {ok ok' okp S : Nat → Prop} {w w0 w1 W W1 : World} {A A' : Option Addr} {u v v1 : Value} {xs : List α} {xs' : List β} {d' : Kd β} {x : α} {c : List Value}
theorem F_nil (d : Kd α) (W : World) (ok : Nat → Prop) : F d W ok none ([] : List α).length [] := fun W' _ => C_nil d W'
theorem FK_of_M (h : d.M W base ok x c) : FK d W ok x c := fun _ hW => d.K_of_M (M_step h hW)
end
end Kd
end Go.Proofs.YtcjdideliifkhaaGreatDoorW.PrintWords
namespace Go.Proofs.YtcjdideliifkhaaGreatDoorW.PrintWords
open Go.RowKit
namespace Kd
def chunks (sz : Nat) (n : Nat) (inner : List Value) : List (List Value) := (List.range n).map fun j => (inner.drop (j * sz)).take sz
theorem chunks_length (sz n : Nat) (inner : List Value) : (chunks sz n inner).length = n := by simp [chunks]
theorem chunks_at {sz n : Nat} {inner : List Value} {j : Nat} (hj : j < n) : (chunks sz n inner)[j]? = some ((inner.drop (j * sz)).take sz) := by simp [chunks, hj]
theorem chunks_get {sz n : Nat} {inner : List Value} {j : Nat} {c : List Value} (h : (chunks sz n inner)[j]? = some c) : c = (inner.drop (j * sz)).take sz := by
 have hj : j < n := by have := (List.getElem?_eq_some_iff.1 h).1; rwa [chunks_length] at this
 rw [chunks_at hj] at h
 injection h with h
 exact h.symm
theorem reps_raw {α : Type} {Rr : α → List Value → Prop} {sz : Nat} {xs : List α} {inner : List Value} (h : Reps Rr sz xs inner) (hR : ∀ x c, Rr x c → c.length = sz ∧ ∀ u ∈ c, u.oneCell' = true) : Reps (fun x cs => cs = x ∧ cs.length = sz ∧ ∀ u ∈ cs, u.oneCell' = true) sz (chunks sz xs.length inner) inner := by
 refine ⟨by rw [chunks_length]; exact h.1, fun j p hj => ?_⟩
 have hjl : j < xs.length := by have := (List.getElem?_eq_some_iff.1 hj).1; rwa [chunks_length] at this
 have hp := chunks_get hj
 exact ⟨hp.symm, hR _ _ (h.2 j _ (List.getElem?_eq_getElem hjl))⟩
section
variable {α : Type} {d : Kd α} {e base n cc g : Nat} {ok ok' okp S : Nat → Prop} {w w1 W W1 : World} {A : Option Addr} {u v v1 : Value} {xs : List α} {x : α} {c : List Value}
def N {α : Type} (d : Kd α) (e : Nat) (w : World) (base : Nat) (ok : Nat → Prop) (v : Value) (xs : List α) : Prop :=
 (∀ k, v.ownBlock = some k → ok k) ∧ ∃ rows : List (List Value), rows.length = xs.length ∧ (raw d.sz).R e w base (fun k => some k = v.ownBlock) v rows ∧ ∀ (j : Nat) (x : α) (c : List Value), xs[j]? = some x → rows[j]? = some c → FK d w (fun k => ok k ∧ some k ≠ v.ownBlock) x c
theorem R_N (h : d.R e w base ok v xs) : N d e w base ok v xs := by
 obtain ⟨h0, inner, ho, hr⟩ := h
 refine ⟨h0, chunks d.sz xs.length inner, chunks_length _ _ _, ⟨fun k hk => hk.symm, inner, by rw [chunks_length]; exact ho, reps_raw hr (fun x c hp => ⟨d.K_len (d.K_of_M hp), d.K_one (d.K_of_M hp)⟩)⟩, fun j x c hx hc => ?_⟩
 rw [chunks_get hc]
 exact FK_of_M (hr.2 j x hx)
theorem N_nil (d : Kd α) (e : Nat) (w : World) (base : Nat) (ok : Nat → Prop) : N d e w base ok (.slice none 0 0) [] := R_N (R_nil _ _ _ _ _)
end
end Kd
end Go.Proofs.YtcjdideliifkhaaGreatDoorW.PrintWords
namespace Go.Proofs.YtcjdideliifkhaaGreatDoorW.PrintWords
open Go.RowKit
namespace Kd
section
variable {α : Type} {d : Kd α} {W : World} {g n : Nat} {S ok : Nat → Prop} {A : Option Addr} {ad : Addr} {xs : List α}
end
end Kd
end Go.Proofs.YtcjdideliifkhaaGreatDoorW.PrintWords
namespace Go.Proofs.YtcjdideliifkhaaGreatDoorW.PrintWords
open Go.RowKit
section
variable {w w' u : World} {m B g : Nat} {o : Obj} {row : Option Nat} {S : Nat → Prop} {a : Addr} {v : Value}
end
namespace Kd
section
variable {α : Type} {d : Kd α} {e base n m : Nat} {ok : Nat → Prop} {w w' : World} {v : Value} {A : Option Addr} {xs : List α}
end
end Kd
end Go.Proofs.YtcjdideliifkhaaGreatDoorW.PrintWords
namespace Go.Proofs.YtcjdideliifkhaaGreatDoorW.PrintWords
open Go.RowKit
section
variable {P : Program} {d : Nat} {xs ys : Array Value} {f : Field} {fs : List Field} {a b : Value} {r s : Bool} {w : World}
end
end Go.Proofs.YtcjdideliifkhaaGreatDoorW.PrintWords
namespace Go.Proofs.YtcjdideliifkhaaGreatDoorW.PrintLast
def up (b : Nat → Bool) (i : Nat) : Nat → Bool := fun j => if j = i then true else b j
section
variable {P : Program} {ops : Array Oper} {Q : Exit → Act → World → Prop} {md : Region.Mode} {T : Bool × List (List Nat × List Nat)} {B : List Nat} {O : List Nat} {b : Nat → Bool} {i j n : Nat}
end
end Go.Proofs.YtcjdideliifkhaaGreatDoorW.PrintLast
namespace Go.Proofs.YtcjdideliifkhaaGreatDoorW.PrintWords
open Go.RowKit
end Go.Proofs.YtcjdideliifkhaaGreatDoorW.PrintWords
namespace Go.Proofs.YtcjdideliifkhaaGreatDoorW.PrintLast
section
variable {ops : Array Oper} {a : Act} {o og : Oper} {g : Nat} {t : Tmp} {u : Bool}
end
end Go.Proofs.YtcjdideliifkhaaGreatDoorW.PrintLast
namespace Go.Proofs.YtcjdideliifkhaaGreatDoorW.PrintWords
open Go.RowKit
section
variable {P : Program} {ops : Array Oper} {rest : List Oper} {o : Oper} {a : Act} {Q : Exit → Act → World → Prop} {W : World}
end
namespace Kd
section
variable {α : Type} {d : Kd α} {e base n cap g : Nat} {ok ok' okp : Nat → Prop} {w w1 W : World} {v v1 : Value} {xs ys : List α}
end
section
variable {P : Program} {ops : Array Oper} {rest : List Oper} {o : Oper} {a : Act} {Q : Exit → Act → World → Prop} {Kc : Act → World → Prop} {α : Type}
end
end Kd
end Go.Proofs.YtcjdideliifkhaaGreatDoorW.PrintWords
namespace Go.Proofs.YtcjdideliifkhaaGreatDoorW.PrintMore
open Go.RowKit Go.Proofs.YtcjdideliifkhaaGreatDoorW.PrintWords
namespace Kd
open Go.Proofs.YtcjdideliifkhaaGreatDoorW.PrintWords.Kd
section
variable {α : Type} {d : Kd α} {e base g N : Nat} {ok : Nat → Prop} {W w1 : World} {u v : Value} {xs : List α}
end
end Kd
theorem max2_int (k k' : IntKind) (x y : Int) : Builtin.max2 (.int k x) (.int k' y) = pure (.int k (if x < y then y else x)) := by simp only [Builtin.max2, gt_iff_lt]
theorem min2_int (k k' : IntKind) (x y : Int) : Builtin.min2 (.int k x) (.int k' y) = pure (.int k (if y < x then y else x)) := by simp only [Builtin.min2]
theorem max_two (ats : Array TypeId) (ty : TypeId) (a b : Value) : Builtin.max_ ats ty #[a, b] = (Builtin.max2 a b >>= fun s => pure s) := by simp only [Builtin.max_, List.foldlM_cons, List.foldlM_nil]
theorem min_two (ats : Array TypeId) (ty : TypeId) (a b : Value) : Builtin.min_ ats ty #[a, b] = (Builtin.min2 a b >>= fun s => pure s) := by simp only [Builtin.min_, List.foldlM_cons, List.foldlM_nil]
theorem max_three (ats : Array TypeId) (ty : TypeId) (a b c : Value) : Builtin.max_ ats ty #[a, b, c] = (Builtin.max2 a b >>= fun s => Builtin.max2 s c >>= fun s => pure s) := by simp only [Builtin.max_, List.foldlM_cons, List.foldlM_nil]
theorem min_three (ats : Array TypeId) (ty : TypeId) (a b c : Value) : Builtin.min_ ats ty #[a, b, c] = (Builtin.min2 a b >>= fun s => Builtin.min2 s c >>= fun s => pure s) := by simp only [Builtin.min_, List.foldlM_cons, List.foldlM_nil]
theorem max_four (ats : Array TypeId) (ty : TypeId) (a b c d : Value) : Builtin.max_ ats ty #[a, b, c, d] = (Builtin.max2 a b >>= fun s => Builtin.max2 s c >>= fun s => Builtin.max2 s d >>= fun s => pure s) := by simp only [Builtin.max_, List.foldlM_cons, List.foldlM_nil]
theorem min_four (ats : Array TypeId) (ty : TypeId) (a b c d : Value) : Builtin.min_ ats ty #[a, b, c, d] = (Builtin.min2 a b >>= fun s => Builtin.min2 s c >>= fun s => Builtin.min2 s d >>= fun s => pure s) := by simp only [Builtin.min_, List.foldlM_cons, List.foldlM_nil]
end Go.Proofs.YtcjdideliifkhaaGreatDoorW.PrintMore
namespace Go.Proofs.YtcjdideliifkhaaGreatDoorW.PrintWords
open Go.RowKit
section
variable {P : Program} {ops : Array Oper} {rest : List Oper} {o : Oper} {a : Act} {Q : Exit → Act → World → Prop} {W : World}
theorem gate_callee {f : FuncId} {as : Array Operand} {ts : Array TypeId} (_ho : o.op = .call { callee := .value (.func f), args := as, argTypes := ts }) (h : wpList P ops Q (o :: rest) a W) : wpList P ops Q (o :: rest) a W := h
theorem gate_builtin {b : Builtin} {xs : Array Operand} {ts : Array TypeId} (_ho : o.op = .call { callee := .builtin b, args := xs, argTypes := ts }) (h : wpList P ops Q (o :: rest) a W) : wpList P ops Q (o :: rest) a W := h
end
def mx (a b : Int) : Int := if a < b then b else a
theorem drewN_self (w : World) (n : Nat) : w.drewN n = w.drewN n := rfl
namespace Kd
section
variable {α : Type} {d : Kd α} {e base : Nat} {ok : Nat → Prop} {W w1 : World} {v : Value} {xs : List α}
end
section
variable {α : Type} {d : Kd α} {e base g n cap : Nat} {ok oki okp : Nat → Prop} {W : World} {xs : List α} {i : Int} {c : List Value}
end
section
variable {α : Type} {d : Kd α} {e base b b' g N : Nat} {ok ok1 : Nat → Prop} {W W2 w1 : World} {u v : Value} {xs ys : List α} {S : Nat → Prop}
end
end Kd
end Go.Proofs.YtcjdideliifkhaaGreatDoorW.PrintWords
namespace Go.Proofs.YtcjdideliifkhaaGreatDoorW.PrintWords
open Go.RowKit
namespace Kd
def V {α : Type} (d : Kd α) (_e : Nat) (W : World) (_base : Nat) (ok : Nat → Prop) (v : Value) (xs : List α) : Prop := ∃ A c, v = .slice A xs.length c ∧ xs.length ≤ c ∧ F d W ok A xs.length xs
section
variable {α β : Type} {d : Kd α} {e base base' n m c g N' lo hi : Nat} {ok ok' S : Nat → Prop} {w W w1 : World} {A : Option Addr} {ad : Addr} {u v v1 : Value} {xs : List α}
theorem V_nil (d : Kd α) (e : Nat) (W : World) (base : Nat) (ok : Nat → Prop) : V d e W base ok (.slice none 0 0) [] := ⟨none, 0, rfl, Nat.le_refl _, F_nil d W ok⟩
end
end Kd
end Go.Proofs.YtcjdideliifkhaaGreatDoorW.PrintWords
