import Derived.Ground.GgsProg
import Derived.Ground.GgtProg
import Derived.Laws.Bits64
import Derived.Shelf.GgSortMore.Iface
import Derived.Shelf.GgSortMore.IfaceD
import Derived.Shelf.GgSortMore.IfacePart
import Derived.Shelf.GgSortMore.IfacePdq
import Derived.Shelf.GgSortMore.SortSort
import Derived.Shelf.LaysC
import Derived.Shelf.LaysM
import Derived.Shelf.SlSortFunc.Xorshift
import Derived.Shelf.SlSortIface.HeapSort
import Derived.Shelf.SlSortIface.PartialInsertion
import Derived.Shelf.SlSortIface.SiftDown
import Derived.Shelf.Small.Bits
import Derived.Shelf.Strconv.Atoi
import Derived.Shelf.Strconv.AtoiAll
import Derived.Shelf.Strconv.AtoiErrFast
import Derived.Shelf.Strconv.AtoiFail
import Derived.Shelf.Strconv.AtoiInnerAll
import Derived.Shelf.Strconv.AtoiLong
import Derived.Shelf.Strconv.Clone
import Derived.Shelf.Strconv.ErrVarAll
import Derived.Shelf.Strconv.Itoa0
import Derived.Shelf.Strconv.Lower
import Derived.Shelf.Strconv.ParseInt10
import Derived.Shelf.Strconv.ParseIntEmpty
import Derived.Shelf.Strconv.ParseUint10
import Derived.Shelf.Strconv.ParseUint10Any
import Derived.Shelf.Strconv.ParseUint10Empty
import Derived.Shelf.Strconv.RangeError
import Derived.Shelf.Strconv.SyntaxError
import Derived.Shelf.Strconv.ToError
import Derived.Shelf.Strconv.ToErrorRange
import Derived.Shelf.Strings.FieldsFuncAny
import Derived.Shelf.Strings.FieldsFuncGrows
import Derived.Shelf.Strings.Prefix
import Derived.Shelf.Unicode.Decode
import Derived.Shelf.Unicode.DecodeAny
import Derived.Shelf.Unicode.DecodeSlow
import Derived.Test.YtcjdideliifkhaaGreatDoorA36
set_option maxRecDepth 100000
set_option maxHeartbeats 16000000
namespace Go.Proofs
open Go.Shelf
def Tryz.laysC172_ren : Go.Shelf.Ren := ⟨fun | 172 => 146 | 244 => 155 | 245 => 156 | 247 => 161 | 279 => 162 | 280 => 163 | 281 => 164 | 282 => 165 | 287 => 167 | 316 => 168 | 171 => 169 | 205 => 49 | 321 => 170 | 322 => 171 | 243 => 172 | 246 => 173 | 283 => 174 | 284 => 175 | 285 => 176 | 286 => 177 | 129 => 132 | 317 => 178 | 318 => 179 | 319 => 180 | 320 => 181 | 337 => 182 | 338 => 183 | n => n, fun | 9 => 9 | 3 => 3 | 75 => 84 | 76 => 247 | 4 => 4 | 5 => 5 | 167 => 262 | 37 => 257 | 0 => 0 | 85 => 263 | 2 => 2 | 168 => 265 | 53 => 57 | 175 => 122 | 46 => 118 | 210 => 271 | 127 => 272 | 145 => 173 | 143 => 171 | 21 => 21 | 171 => 274 | 173 => 276 | 212 => 279 | 51 => 229 | 20 => 20 | 213 => 280 | 232 => 281 | 233 => 282 | 80 => 283 | n => n, fun | 15 => 4 | 16 => 5 | 17 => 6 | 18 => 7 | 19 => 8 | n => n⟩
theorem Tryz.laysC172 : Go.Proofs.LaysC.n172 Tryz.prog Tryz.laysC172_ren := {
 mixed := by kernel_rfl
 f129 := Tryz.func132.trans (congrArg some (by kernel_rfl))
 f171 := Tryz.func169.trans (congrArg some (by kernel_rfl))
 f172 := Tryz.func146.trans (congrArg some (by kernel_rfl))
 f205 := Tryz.func49.trans (congrArg some (by kernel_rfl))
 f243 := Tryz.func172.trans (congrArg some (by kernel_rfl))
 f244 := Tryz.func155.trans (congrArg some (by kernel_rfl))
 f245 := Tryz.func156.trans (congrArg some (by kernel_rfl))
 f246 := Tryz.func173.trans (congrArg some (by kernel_rfl))
 f247 := Tryz.func161.trans (congrArg some (by kernel_rfl))
 f279 := Tryz.func162.trans (congrArg some (by kernel_rfl))
 f280 := Tryz.func163.trans (congrArg some (by kernel_rfl))
 f281 := Tryz.func164.trans (congrArg some (by kernel_rfl))
 f282 := Tryz.func165.trans (congrArg some (by kernel_rfl))
 f283 := Tryz.func174.trans (congrArg some (by kernel_rfl))
 f284 := Tryz.func175.trans (congrArg some (by kernel_rfl))
 f285 := Tryz.func176.trans (congrArg some (by kernel_rfl))
 f286 := Tryz.func177.trans (congrArg some (by kernel_rfl))
 f287 := Tryz.func167.trans (congrArg some (by kernel_rfl))
 f316 := Tryz.func168.trans (congrArg some (by kernel_rfl))
 f317 := Tryz.func178.trans (congrArg some (by kernel_rfl))
 f318 := Tryz.func179.trans (congrArg some (by kernel_rfl))
 f319 := Tryz.func180.trans (congrArg some (by kernel_rfl))
 f320 := Tryz.func181.trans (congrArg some (by kernel_rfl))
 f321 := Tryz.func170.trans (congrArg some (by kernel_rfl))
 f322 := Tryz.func171.trans (congrArg some (by kernel_rfl))
 f337 := Tryz.func182.trans (congrArg some (by kernel_rfl))
 f338 := Tryz.func183.trans (congrArg some (by kernel_rfl))
 t0 := Tryz.underlying0
 a0 := Tryz.isAgg0
 z0 := Tryz.sizeOf0
 v0 := Tryz.zeroValue0
 t2 := Tryz.underlying2
 a2 := Tryz.isAgg2
 z2 := Tryz.sizeOf2
 v2 := Tryz.zeroValue2
 t3 := Tryz.underlying3
 a3 := Tryz.isAgg3
 z3 := Tryz.sizeOf3
 v3 := Tryz.zeroValue3
 t4 := Tryz.underlying4
 a4 := Tryz.isAgg4
 z4 := Tryz.sizeOf4
 v4 := Tryz.zeroValue4
 t5 := Tryz.underlying5
 a5 := Tryz.isAgg5
 z5 := Tryz.sizeOf5
 v5 := Tryz.zeroValue5
 t9 := Tryz.underlying9
 a9 := Tryz.isAgg9
 z9 := Tryz.sizeOf9
 v9 := Tryz.zeroValue9
 t20 := Tryz.underlying20
 a20 := Tryz.isAgg20
 z20 := Tryz.sizeOf20
 v20 := Tryz.zeroValue20
 t21 := Tryz.underlying21
 a21 := Tryz.isAgg21
 z21 := Tryz.sizeOf21
 v21 := Tryz.zeroValue21
 t37 := Tryz.underlying257
 a37 := Tryz.isAgg257
 z37 := Tryz.sizeOf257
 v37 := Tryz.zeroValue257
 t46 := Tryz.underlying118
 a46 := Tryz.isAgg118
 z46 := Tryz.sizeOf118
 v46 := Tryz.zeroValue118
 t51 := Tryz.underlying229
 a51 := Tryz.isAgg229
 z51 := Tryz.sizeOf229
 v51 := Tryz.zeroValue229
 t53 := Tryz.underlying57
 a53 := Tryz.isAgg57
 z53 := Tryz.sizeOf57
 v53 := Tryz.zeroValue57
 t75 := Tryz.underlying84
 a75 := Tryz.isAgg84
 z75 := Tryz.sizeOf84
 v75 := Tryz.zeroValue84
 t76 := Tryz.underlying247
 a76 := Tryz.isAgg247
 z76 := Tryz.sizeOf247
 v76 := Tryz.zeroValue247
 t85 := Tryz.underlying263
 a85 := Tryz.isAgg263
 z85 := Tryz.sizeOf263
 v85 := Tryz.zeroValue263
 t127 := Tryz.underlying272
 a127 := Tryz.isAgg272
 z127 := Tryz.sizeOf272
 v127 := Tryz.zeroValue272
 t143 := Tryz.underlying171
 a143 := Tryz.isAgg171
 z143 := Tryz.sizeOf171
 v143 := Tryz.zeroValue171
 t145 := Tryz.underlying173
 a145 := Tryz.isAgg173
 z145 := Tryz.sizeOf173
 v145 := Tryz.zeroValue173
 t167 := Tryz.underlying262
 a167 := Tryz.isAgg262
 z167 := Tryz.sizeOf262
 v167 := Tryz.zeroValue262
 t168 := Tryz.underlying265
 a168 := Tryz.isAgg265
 z168 := Tryz.sizeOf265
 v168 := Tryz.zeroValue265
 t171 := Tryz.underlying274
 a171 := Tryz.isAgg274
 z171 := Tryz.sizeOf274
 v171 := Tryz.zeroValue274
 t173 := Tryz.underlying276
 a173 := Tryz.isAgg276
 z173 := Tryz.sizeOf276
 v173 := Tryz.zeroValue276
 t175 := Tryz.underlying122
 a175 := Tryz.isAgg122
 z175 := Tryz.sizeOf122
 v175 := Tryz.zeroValue122
 t210 := Tryz.underlying271
 a210 := Tryz.isAgg271
 z210 := Tryz.sizeOf271
 v210 := Tryz.zeroValue271
 t212 := Tryz.underlying279
 a212 := Tryz.isAgg279
 z212 := Tryz.sizeOf279
 v212 := Tryz.zeroValue279
 t213 := Tryz.underlying280
 a213 := Tryz.isAgg280
 z213 := Tryz.sizeOf280
 t232 := Tryz.underlying281
 a232 := Tryz.isAgg281
 z232 := Tryz.sizeOf281
 v232 := Tryz.zeroValue281
 t233 := Tryz.underlying282
 a233 := Tryz.isAgg282
 z233 := Tryz.sizeOf282
 v233 := Tryz.zeroValue282
 g15 := by kernel_rfl
 g16 := by kernel_rfl
 g17 := by kernel_rfl
 g18 := by kernel_rfl
 g19 := by kernel_rfl
 t80 := Tryz.underlying283
 a80 := Tryz.isAgg283
 z80 := Tryz.sizeOf283
 v80 := Tryz.zeroValue283
 i0 := by kernel_rfl
 i2 := by kernel_rfl
 i3 := by kernel_rfl
 i4 := by kernel_rfl
 i5 := by kernel_rfl
 i9 := by kernel_rfl
 i20 := by kernel_rfl
 i21 := by kernel_rfl
 i37 := by kernel_rfl
 i46 := by kernel_rfl
 i51 := by kernel_rfl
 i53 := by kernel_rfl
 i75 := by kernel_rfl
 i76 := by kernel_rfl
 i80 := by kernel_rfl
 i85 := by kernel_rfl
 i127 := by kernel_rfl
 i143 := by kernel_rfl
 i145 := by kernel_rfl
 i167 := by kernel_rfl
 i168 := by kernel_rfl
 i171 := by kernel_rfl
 i173 := by kernel_rfl
 i175 := by kernel_rfl
 i210 := by kernel_rfl
 i212 := by kernel_rfl
 i232 := by kernel_rfl
 i233 := by kernel_rfl
 m15 := by kernel_rfl
 m16 := by kernel_rfl
 m17 := by kernel_rfl
 m18 := by kernel_rfl
 m19 := by kernel_rfl
 c0 := by kernel_rfl
 c2 := by kernel_rfl
 c3 := by kernel_rfl
 c4 := by kernel_rfl
 c5 := by kernel_rfl
 c9 := by kernel_rfl
 c20 := by kernel_rfl
 c21 := by kernel_rfl
 c37 := by kernel_rfl
 c46 := by kernel_rfl
 c51 := by kernel_rfl
 c53 := by kernel_rfl
 c75 := by kernel_rfl
 c76 := by kernel_rfl
 c80 := by kernel_rfl
 c85 := by kernel_rfl
 c127 := by kernel_rfl
 c143 := by kernel_rfl
 c145 := by kernel_rfl
 c167 := by kernel_rfl
 c168 := by kernel_rfl
 c171 := by kernel_rfl
 c173 := by kernel_rfl
 c175 := by kernel_rfl
 c210 := by kernel_rfl
 c212 := by kernel_rfl
 c213 := by kernel_rfl
 c232 := by kernel_rfl
 c233 := by kernel_rfl }
open Go.RowKit in
theorem Tryz.strconv_Atoi_ok (s : ByteArray) (hmax : s.size ≤ 9223372036854775806) (v : Int) (h : Lib.atoiAll s.data.toList = .ok v) (w : World) :
  Calls Tryz.prog 146 #[.string s] w fun e w' => e = .returned (.tuple #[.int .i64 v, .nilIface]) ∧ (w' = w ∨ ∃ t, w' = Lib.bytesWorld w 5 t) := Any.strconv_Atoi_ok Tryz.laysC172 s hmax v h w
def Tryz.lays197_ren : Go.Shelf.Ren := ⟨fun | 197 => 87 | 260 => 116 | n => n, fun | 9 => 9 | 21 => 21 | 3 => 3 | 4 => 4 | 5 => 5 | 105 => 174 | 119 => 242 | 0 => 0 | 46 => 118 | 139 => 245 | 138 => 244 | n => n, fun | 3 => 1 | 4 => 2 | n => n⟩
theorem Tryz.lays197 : Go.Proofs.Lays.n197 Tryz.prog Tryz.lays197_ren := {
 mixed := by kernel_rfl
 f197 := Tryz.func87.trans (congrArg some (by kernel_rfl))
 f260 := Tryz.func116.trans (congrArg some (by kernel_rfl))
 t0 := Tryz.underlying0
 a0 := Tryz.isAgg0
 z0 := Tryz.sizeOf0
 v0 := Tryz.zeroValue0
 t3 := Tryz.underlying3
 a3 := Tryz.isAgg3
 z3 := Tryz.sizeOf3
 v3 := Tryz.zeroValue3
 t4 := Tryz.underlying4
 a4 := Tryz.isAgg4
 z4 := Tryz.sizeOf4
 v4 := Tryz.zeroValue4
 t5 := Tryz.underlying5
 a5 := Tryz.isAgg5
 z5 := Tryz.sizeOf5
 v5 := Tryz.zeroValue5
 t9 := Tryz.underlying9
 a9 := Tryz.isAgg9
 z9 := Tryz.sizeOf9
 v9 := Tryz.zeroValue9
 t21 := Tryz.underlying21
 a21 := Tryz.isAgg21
 z21 := Tryz.sizeOf21
 v21 := Tryz.zeroValue21
 t46 := Tryz.underlying118
 a46 := Tryz.isAgg118
 z46 := Tryz.sizeOf118
 v46 := Tryz.zeroValue118
 t105 := Tryz.underlying174
 a105 := Tryz.isAgg174
 z105 := Tryz.sizeOf174
 v105 := Tryz.zeroValue174
 t119 := Tryz.underlying242
 a119 := Tryz.isAgg242
 z119 := Tryz.sizeOf242
 t138 := Tryz.underlying244
 a138 := Tryz.isAgg244
 z138 := Tryz.sizeOf244
 v138 := Tryz.zeroValue244
 t139 := Tryz.underlying245
 a139 := Tryz.isAgg245
 z139 := Tryz.sizeOf245
 v139 := Tryz.zeroValue245
 g3 := by kernel_rfl
 g4 := by kernel_rfl }
open Go.RowKit Go.Lib in
theorem Tryz.utf8_DecodeRuneInString_ascii (s : ByteArray) (x : UInt8) (w : World) (h0 : s.data.toList[0]? = some x) (hx : x.toNat < 128) :
  Calls Tryz.prog 87 #[.string s] w fun e w' => e = .returned (.tuple #[.int .i32 x.toNat, .int .i64 1]) ∧ w' = w := Any.utf8_DecodeRuneInString_ascii Tryz.lays197 s x w h0 hx
def Tryz.lays229_ren : Go.Shelf.Ren := ⟨fun | 229 => 94 | n => n, fun | 9 => 9 | 40 => 176 | 31 => 50 | 152 => 218 | 3 => 3 | 0 => 0 | 4 => 4 | 21 => 21 | 154 => 220 | n => n, fun | n => n⟩
theorem Tryz.lays229 : Go.Proofs.Lays.n229 Tryz.prog Tryz.lays229_ren := {
 mixed := by kernel_rfl
 f229 := Tryz.func94.trans (congrArg some (by kernel_rfl))
 t0 := Tryz.underlying0
 a0 := Tryz.isAgg0
 z0 := Tryz.sizeOf0
 v0 := Tryz.zeroValue0
 t3 := Tryz.underlying3
 a3 := Tryz.isAgg3
 z3 := Tryz.sizeOf3
 v3 := Tryz.zeroValue3
 t4 := Tryz.underlying4
 a4 := Tryz.isAgg4
 z4 := Tryz.sizeOf4
 v4 := Tryz.zeroValue4
 t9 := Tryz.underlying9
 a9 := Tryz.isAgg9
 z9 := Tryz.sizeOf9
 v9 := Tryz.zeroValue9
 t21 := Tryz.underlying21
 a21 := Tryz.isAgg21
 z21 := Tryz.sizeOf21
 v21 := Tryz.zeroValue21
 t31 := Tryz.underlying50
 a31 := Tryz.isAgg50
 z31 := Tryz.sizeOf50
 v31 := Tryz.zeroValue50
 t40 := Tryz.underlying176
 a40 := Tryz.isAgg176
 z40 := Tryz.sizeOf176
 v40 := Tryz.zeroValue176
 t152 := Tryz.underlying218
 a152 := Tryz.isAgg218
 z152 := Tryz.sizeOf218
 v152 := Tryz.zeroValue218
 t154 := Tryz.underlying220
 a154 := Tryz.isAgg220
 z154 := Tryz.sizeOf220
 v154 := Tryz.zeroValue220 }
open Go.RowKit Go.Lib in
theorem Tryz.strings_FieldsFunc (g : Nat) (lb : Array Value) (eg : ∀ args w, (callFunc g args).run Tryz.prog w = .ok (.enter g args) w) (p : Nat → Bool) (s : ByteArray) (w : World) (hs : s.size ≤ 4294967296) (hp : PredAt Tryz.prog g lb encR p w) :
  Calls Tryz.prog 94 #[.string s, .func (.func g) #[] lb] w fun e w' => ∃ A, e = .returned (.slice (some ⟨A, 0, none⟩) (Lib.goFieldsP p s).length (Lib.goFieldsP p s).length) ∧ w.heap.size ≤ A ∧
   w'.ownsRow w.heap.size 9 1 (.slice (some ⟨A, 0, none⟩) (Lib.goFieldsP p s).length (Lib.goFieldsP p s).length) (Lib.goFieldsP p s).length ((Lib.goFieldsP p s).map Value.string) ∧ Below w.heap.size w w' := Any.strings_FieldsFunc Tryz.lays229 g lb eg p s w hs hp (by kernel_rfl) (by kernel_rfl)
end Go.Proofs
namespace Go.Proofs.YtcjdideliifkhaaGreatDoor
open Go.RowKit Go.Proofs.YtcjdideliifkhaaGreatDoorW.PrintWords Go.Proofs.YtcjdideliifkhaaGreatDoorW.PrintLast Go.Proofs.YtcjdideliifkhaaGreatDoorW.PrintMore PFnCronTextAfterAnywhere
set_option linter.unusedVariables false
set_option linter.unusedSimpArgs false
theorem digits_parse : ∀ (l : Txt) (n : Nat), (∀ c ∈ l, dig c = true) → l.foldl dval n ≤ 1099511627776 → Lib.parseUint10 n l = .ok (l.foldl dval n) := by
 intro l
 induction l with
 | nil => intro n _ _; rfl
 | cons c l ih =>
  intro n hd hv
  have hc := dig_rng (hd c (List.mem_cons_self ..))
  have hm := val_mono l (dval n c)
  rw [List.foldl_cons] at hv
  have := ih (dval n c) (fun x hx => hd x (List.mem_cons_of_mem _ hx)) hv
  have he : dval n c = n * 10 + (c.toNat - 48) := by unfold dval; omega
  have hle : n * 10 + (c.toNat - 48) ≤ 1099511627776 := by omega
  rw [List.foldl_cons, Lib.parseUint10, if_pos hc, if_neg (by omega), if_neg (by omega), ← he]
  exact this
theorem digits_atoi (l : Txt) (hd : Digits l) (hv : val l ≤ 1099511627776) : Lib.atoiAll l = .ok (val l : Nat) := by
 obtain ⟨hne, hall⟩ := hd
 have hp := digits_parse l 0 hall hv
 cases l with
 | nil => exact absurd rfl hne
 | cons c r =>
  have hc := dig_rng (hall c (List.mem_cons_self ..))
  have hv' : (c :: r).foldl dval 0 = val (c :: r) := rfl
  rw [hv'] at hp
  have hm : Lib.parseMag (c :: r) = .ok (val (c :: r)) := by unfold Lib.parseMag; rw [if_neg (by simp)]; exact hp
  generalize val (c :: r) = n at *
  unfold Lib.atoiAll
  simp only
  rw [if_neg (show ¬ (c.toNat = 43 ∨ c.toNat = 45) by omega), hm]
  simp only
  rw [if_neg (by omega), if_neg (by omega), if_neg (by omega)]
theorem mustInt_c (s : ByteArray) (hs : s.size ≤ 4294967296) (hd : Digits (toL s)) (hv : val (toL s) ≤ 1099511627776) (w : World) :
  Calls Tryz.prog 124 #[.string s] w fun e w' => e = .returned (.tuple #[.int .u64 (val (toL s) : Int), .nilIface]) ∧ Below w.heap.size w w' := by
 have ha := digits_atoi (toL s) hd hv
 generalize val (toL s) = n at *
 have HA := Lib.hid (fun w => Tryz.strconv_Atoi_ok s (by omega) (n : Int) ha w)
 clear ha hd
 go_enter Tryz.func124, Tryz.ntmps124
 go_wp2_with (go_at_call 146; refine (HA.out _).mono ?_; rintro e w2 ⟨rfl, hw2⟩; have HB2 := Lib.hid (show Below w.heap.size w w2 by rcases hw2 with rfl | ⟨t, rfl⟩; exact Below.refl _ _; exact Lib.bytesWorld_below _ _ _); clear hw2)
 go_ret2
 exact ⟨rfl, HB2.out⟩
theorem up_low (c X : UInt8) (h : 65 ≤ X.toNat ∧ X.toNat ≤ 90) : up c = X ↔ low8 c = X + 32 := by
 have h1 := up_nat c
 have h2 := low8_nat c
 have h3 : (X + 32).toNat = X.toNat + 32 := by rw [UInt8.toNat_add]; simp; omega
 constructor
 ·intro e
  apply UInt8.toNat_inj.1
  rw [h3, h2]
  rw [e] at h1
  have hc := c.toNat_lt
  split at h1 <;> split <;> omega
 ·intro e
  apply UInt8.toNat_inj.1
  rw [e, h3] at h2
  have hc := c.toNat_lt
  split at h1 <;> split at h2 <;> omega
theorem same_low : ∀ (N l : Txt), (∀ x ∈ N, 65 ≤ x.toNat ∧ x.toNat ≤ 90) → (sameL N l = true ↔ l.map low8 = N.map (· + 32)) := by
 intro N
 induction N with
 | nil => intro l _; cases l <;> simp [sameL]
 | cons X N ih =>
  intro l hN
  have hX := hN X (List.mem_cons_self ..)
  have hupX : up X = X := by
   apply UInt8.toNat_inj.1
   have := up_nat X
   rw [if_neg (by omega)] at this
   omega
  cases l with
  | nil => simp [sameL]
  | cons c l =>
   have := ih l (fun x hx => hN x (List.mem_cons_of_mem _ hx))
   rw [sameL_cons, hupX, List.map_cons, List.map_cons]
   by_cases e : up c = X
   ·rw [if_pos e.symm, this, (up_low c X hX).1 e]; simp
   ·rw [if_neg (fun h => e h.symm)]
    have : low8 c ≠ X + 32 := fun h => e ((up_low c X hX).2 h)
    simp [this]
def namesF (kind : Int) : List (Txt × Int) := if kind = 4 then monthsF else dowF
theorem names_up (kind : Int) (hk : kind = 4 ∨ kind = 5) (v : Nat) (h0 : low kind ≤ v) (h1 : (v : Int) ≤ high kind) : (∀ x ∈ nameL kind v, 65 ≤ x.toNat ∧ x.toNat ≤ 90) ∧ lookF (namesF kind) ((nameL kind v).map (· + 32)) = some (v : Int) := by
 rcases hk with rfl | rfl
 ·have hlo : low 4 = 1 := rfl
  have hhi : high 4 = 12 := rfl
  have : v = 1 ∨ v = 2 ∨ v = 3 ∨ v = 4 ∨ v = 5 ∨ v = 6 ∨ v = 7 ∨ v = 8 ∨ v = 9 ∨ v = 10 ∨ v = 11 ∨ v = 12 := by omega
  rcases this with rfl | rfl | rfl | rfl | rfl | rfl | rfl | rfl | rfl | rfl | rfl | rfl <;> exact ⟨by decide, rfl⟩
 ·have hlo : low 5 = 0 := rfl
  have hhi : high 5 = 6 := rfl
  have : v = 0 ∨ v = 1 ∨ v = 2 ∨ v = 3 ∨ v = 4 ∨ v = 5 ∨ v = 6 := by omega
  rcases this with rfl | rfl | rfl | rfl | rfl | rfl | rfl <;> exact ⟨by decide, rfl⟩
theorem named_look {kind : Int} {l : Txt} {v : Nat} (h : Named kind l v) : lookF (namesF kind) (l.map low8) = some (v : Int) := by
 obtain ⟨hk, h0, h1, hs⟩ := h
 obtain ⟨hu, hl⟩ := names_up kind hk v h0 h1
 rw [(same_low _ _ hu).1 hs]; exact hl
theorem lookF_mem {l : List (Txt × Int)} {key : Txt} {v : Int} (h : lookF l key = some v) : (key, v) ∈ l := by
 induction l with
 | nil => cases h
 | cons p l ih =>
  obtain ⟨k, u⟩ := p
  unfold lookF at h
  split at h
  ·rename_i e; cases h; rw [e]; exact List.mem_cons_self ..
  ·exact List.mem_cons_of_mem _ (ih h)
theorem names_all (kind : Int) (hk : kind = 4 ∨ kind = 5) : ∀ p ∈ namesF kind, ∃ v : Nat, p = ((nameL kind v).map (· + 32), (v : Int)) ∧ low kind ≤ v ∧ (v : Int) ≤ high kind := by
 rcases hk with rfl | rfl
 ·intro p hp
  have hp' : p ∈ monthsF := hp
  unfold monthsF at hp'
  simp only [List.mem_cons, List.not_mem_nil, or_false] at hp'
  rcases hp' with rfl | rfl | rfl | rfl | rfl | rfl | rfl | rfl | rfl | rfl | rfl | rfl
  ·exact ⟨12, rfl, by decide, by decide⟩
  ·exact ⟨11, rfl, by decide, by decide⟩
  ·exact ⟨10, rfl, by decide, by decide⟩
  ·exact ⟨9, rfl, by decide, by decide⟩
  ·exact ⟨8, rfl, by decide, by decide⟩
  ·exact ⟨7, rfl, by decide, by decide⟩
  ·exact ⟨6, rfl, by decide, by decide⟩
  ·exact ⟨5, rfl, by decide, by decide⟩
  ·exact ⟨4, rfl, by decide, by decide⟩
  ·exact ⟨3, rfl, by decide, by decide⟩
  ·exact ⟨2, rfl, by decide, by decide⟩
  ·exact ⟨1, rfl, by decide, by decide⟩
 ·intro p hp
  have hp' : p ∈ dowF := hp
  unfold dowF at hp'
  simp only [List.mem_cons, List.not_mem_nil, or_false] at hp'
  rcases hp' with rfl | rfl | rfl | rfl | rfl | rfl | rfl
  ·exact ⟨6, rfl, by decide, by decide⟩
  ·exact ⟨5, rfl, by decide, by decide⟩
  ·exact ⟨4, rfl, by decide, by decide⟩
  ·exact ⟨3, rfl, by decide, by decide⟩
  ·exact ⟨2, rfl, by decide, by decide⟩
  ·exact ⟨1, rfl, by decide, by decide⟩
  ·exact ⟨0, rfl, by decide, by decide⟩
theorem unnamed_look {kind : Int} (hk : kind = 4 ∨ kind = 5) {l : Txt} (h : ∀ v, ¬ Named kind l v) : lookF (namesF kind) (l.map low8) = none := by
 cases hl : lookF (namesF kind) (l.map low8) with
 | none => rfl
 | some u =>
  obtain ⟨v, hv, h0, h1⟩ := names_all kind hk _ (lookF_mem hl)
  injection hv with e1 e2
  exact absurd ⟨hk, h0, h1, (same_low _ _ (names_up kind hk v h0 h1).1).2 e1⟩ (h v)
def NamesAt (kind : Int) (w : World) (m : Option Nat) : Prop := (∃ b, m = some b ∧ MapIs w 118 b (namesF kind) ∧ (kind = 4 ∨ kind = 5)) ∨ (m = none ∧ kind ≠ 4 ∧ kind ≠ 5)
theorem NamesAt.below {kind : Int} {w w' : World} {m : Option Nat} (h : NamesAt kind w m) (hb : Below w.heap.size w w') : NamesAt kind w' m := by
 rcases h with ⟨b, h1, h2, h3⟩ | h
 ·exact .inl ⟨b, h1, h2.below hb, h3⟩
 ·exact .inr h
theorem BndAt.names {kind : Int} {w : World} {v : Value} (h : BndAt kind w v) : ∃ m, v = .agg #[.int .u64 (low kind), .int .u64 (high kind), .map m] ∧ NamesAt kind w m := by
 obtain ⟨m, rfl, h⟩ := h
 refine ⟨m, rfl, ?_⟩
 rcases h with ⟨rfl, b, h2, h3⟩ | ⟨rfl, b, h2, h3⟩ | ⟨h1, h2, h3⟩
 ·exact .inl ⟨b, h2, h3, .inl rfl⟩
 ·exact .inl ⟨b, h2, h3, .inr rfl⟩
 ·exact .inr ⟨h3, h1, h2⟩
theorem zero118 (w : World) : (zeroValue 118).run Tryz.prog w = .ok (.int .u64 0) w := by kernel_rfl
theorem intOrName_c (kind : Int) (s : ByteArray) (hs : s.size ≤ 4294967295) (ha : foreign (toL s) = false) (n : Int) (hv : ValR kind (toL s) n) (hn : n < 1099511627776) (m : Option Nat) (w : World) (hm : NamesAt kind w m) :
  Calls Tryz.prog 123 #[.string s, .map m] w fun e w' => e = .returned (.tuple #[.int .u64 n, .nilIface]) ∧ Below w.heap.size w w' := by
 have hnn := fun w => run_neq_map_nil (P := Tryz.prog) w 119 9 118 m Tryz.underlying119
 have hnum : (∀ v, ¬ Named kind (toL s) v) → Digits (toL s) ∧ n = (val (toL s) : Nat) ∧ val (toL s) ≤ 1099511627776 := fun h => by
  rcases hv with ⟨v, _, h2⟩ | ⟨_, h2, h3⟩
  ·exact absurd h2 (h v)
  ·exact ⟨h2, by omega, by omega⟩
 rcases hm with ⟨b, rfl, hM, hk⟩ | ⟨rfl, hk4, hk5⟩
 ·have hlen : ((toL s).map low8).length ≤ 4294967296 := by rw [List.length_map, toL_len]; omega
  have HM := Lib.hid hM
  have HL := Lib.hid (fun w => lower_c s hs ha w)
  have hnn2 : ∀ w, (binOp .neq 119 (.map (some b)) (.map none)).run Tryz.prog w = .ok (.bool true) w := fun w => hnn w
  clear hM hnn
  rcases hv with ⟨v, rfl, hN⟩ | ⟨hN, hx1, hx2⟩
  ·have hlk := named_look hN
   clear hnum hN
   have HK := Lib.hid hlk
   clear hlk
   generalize (toL s).map low8 = key at *
   go_enter Tryz.func123, Tryz.ntmps123
   go_wp2_with (go_at_call 145; refine (HL.out _).mono ?_; rintro e w2 ⟨rfl, hb2⟩; have hlook := ((HM.out.below hb2).look Tryz.underlying118 (zero118 _) Tryz.underlying119 key hlen).1 _ HK.out; have HB2 := Lib.hid hb2; clear hb2)
   go_ret2
   exact ⟨rfl, HB2.out⟩
  ·obtain ⟨hd, rfl, hle⟩ := hnum hN
   have hlk := unnamed_look hk hN
   have HK := Lib.hid hlk
   have HI := Lib.hid (fun w => mustInt_c s (by omega) hd hle w)
   clear hlk hnum hd hN hx1 hx2
   generalize (toL s).map low8 = key at *
   generalize val (toL s) = nn at *
   go_enter Tryz.func123, Tryz.ntmps123
   go_wp2_with (first
    | (go_at_call 145; refine (HL.out _).mono ?_; rintro e w2 ⟨rfl, hb2⟩; have hlook := ((HM.out.below hb2).look Tryz.underlying118 (zero118 _) Tryz.underlying119 key hlen).2 HK.out; obtain ⟨c0, hlook⟩ := hlook; have HB2 := Lib.hid hb2; clear hb2)
    | (go_at_call 124; refine (HI.out _).mono ?_; rintro e w3 ⟨rfl, hb3⟩; have HB3 := Lib.hid (below_step HB2.out hb3); clear hb3))
   go_ret2
   exact ⟨rfl, HB3.out⟩
 ·have hnn2 : ∀ w, (binOp .neq 119 (.map none) (.map none)).run Tryz.prog w = .ok (.bool false) w := fun w => hnn w
  clear hnn
  obtain ⟨hd, rfl, hle⟩ := hnum (fun v h => h.1.elim hk4 hk5)
  have HI := Lib.hid (fun w => mustInt_c s (by omega) hd hle w)
  clear hnum hd hv
  generalize val (toL s) = nn at *
  go_enter Tryz.func123, Tryz.ntmps123
  go_wp2_with (go_at_call 124; refine (HI.out _).mono ?_; rintro e w3 ⟨rfl, hb3⟩; have HB3 := Lib.hid hb3; clear hb3)
  go_ret2
  exact ⟨rfl, HB3.out⟩
def rangeN (lo hi : Nat) (step N : Nat) : Prop := N < 18446744073709551616 ∧ ∀ i, N.testBit i = decide (lo ≤ i ∧ i ≤ hi ∧ (i - lo) % step = 0)
def fromN (k : Nat) : Nat := 2 ^ k * (2 ^ (64 - k) - 1)
theorem fromN_bit (k : Nat) (hk : k ≤ 64) (i : Nat) : (fromN k).testBit i = decide (k ≤ i ∧ i < 64) := by
 unfold fromN
 rw [Nat.testBit_two_pow_mul, Nat.testBit_two_pow_sub_one]
 by_cases h : k ≤ i
 ·simp [h]; omega
 ·simp [h]
theorem fromN_lt (k : Nat) (hk : k ≤ 64) : fromN k < 18446744073709551616 := by
 have h : fromN k < 2 ^ 64 := by
  unfold fromN
  have h1 : 2 ^ k * 2 ^ (64 - k) = 2 ^ 64 := by rw [← Nat.pow_add]; congr 1; omega
  have h2 : 0 < 2 ^ (64 - k) := Nat.two_pow_pos _
  have h3 : 0 < 2 ^ k := Nat.two_pow_pos _
  calc 2 ^ k * (2 ^ (64 - k) - 1) < 2 ^ k * 2 ^ (64 - k) := Nat.mul_lt_mul_of_pos_left (by omega) h3
   _ = 2 ^ 64 := h1
 exact h
theorem fromN_wrap (k : Nat) (hk : k ≤ 64) : IntKind.u64.wrap (18446744073709551615 * 2 ^ k) = (fromN k : Nat) := by
 rw [IntKind.wrap_u64]
 have h1 : (2 : Nat) ^ k * 2 ^ (64 - k) = 2 ^ 64 := by rw [← Nat.pow_add]; congr 1; omega
 have h3 : 0 < 2 ^ k := Nat.two_pow_pos _
 have hle : 2 ^ k ≤ 2 ^ 64 := Nat.pow_le_pow_right (by decide) hk
 have hf : fromN k = 18446744073709551616 - 2 ^ k := by
  unfold fromN
  rw [Nat.mul_sub, h1, Nat.mul_one]
 rw [hf]
 have e : ((2 : Int) ^ k) = ((2 ^ k : Nat) : Int) := by simp
 rw [e]
 have hle' : 2 ^ k ≤ 18446744073709551616 := hle
 generalize 2 ^ k = z at *
 omega
theorem bits_one (lo hi : Nat) (h1 : lo ≤ hi) (h2 : hi < 63) : ∃ N : Nat, bits .and .u64 (bits .xor .u64 IntKind.u64.max (IntKind.u64.wrap (18446744073709551615 * 2 ^ (hi + 1)))) (IntKind.u64.wrap (18446744073709551615 * 2 ^ lo)) = (N : Int) ∧ rangeN lo hi 1 N := by
 rw [fromN_wrap _ (by omega), fromN_wrap _ (by omega)]
 have hm : IntKind.u64.max = ((fromN 0 : Nat) : Int) := by decide
 rw [hm, bits_xor_u64_nat _ _ (fromN_lt 0 (by decide)) (fromN_lt _ (by omega))]
 have hx : (fromN 0 ^^^ fromN (hi + 1)) < 2 ^ 64 := Nat.xor_lt_two_pow (fromN_lt 0 (by decide)) (fromN_lt _ (by omega))
 rw [(bits_nat .u64 64 (by decide) wraps_u64 _ _ hx (fromN_lt lo (by omega))).1]
 refine ⟨_, rfl, Nat.and_lt_two_pow _ (n := 64) (fromN_lt lo (by omega)), fun i => ?_⟩
 rw [Nat.testBit_and, Nat.testBit_xor, fromN_bit _ (by decide), fromN_bit _ (by omega), fromN_bit _ (by omega), Nat.mod_one]
 by_cases a : lo ≤ i <;> by_cases b : i ≤ hi <;> by_cases c : i < 64 <;> simp [a, b, c] <;> omega
def partN (lo step i N : Nat) : Prop := N < 18446744073709551616 ∧ ∀ j, N.testBit j = decide (lo ≤ j ∧ j < i ∧ (j - lo) % step = 0)
theorem part_step {lo step k N : Nat} (hs : 0 < step) (h : partN lo step (lo + k * step) N) (hi : lo + k * step < 63) :
  ∃ N' : Nat, bits .or .u64 (N : Int) (IntKind.u64.wrap (2 ^ (lo + k * step))) = (N' : Int) ∧ partN lo step (lo + (k + 1) * step) N' := by
 have hw : IntKind.u64.wrap (2 ^ (lo + k * step)) = ((2 ^ (lo + k * step) : Nat) : Int) := by
  have hlt : 2 ^ (lo + k * step) < 2 ^ 64 := Nat.pow_lt_pow_right (by decide) (by omega)
  have e : ((2 : Int) ^ (lo + k * step)) = ((2 ^ (lo + k * step) : Nat) : Int) := by simp
  rw [e, wraps_u64 _ (Int.natCast_nonneg _) (by exact_mod_cast hlt)]
 have hp : 2 ^ (lo + k * step) < 2 ^ 64 := Nat.pow_lt_pow_right (by decide) (by omega)
 rw [hw, (bits_nat .u64 64 (by decide) wraps_u64 N _ h.1 hp).2]
 refine ⟨_, rfl, Nat.or_lt_two_pow (n := 64) h.1 hp, fun j => ?_⟩
 rw [Nat.testBit_or, h.2, Nat.testBit_two_pow]
 by_cases a : lo + k * step = j
 ·subst a
  have : (lo + k * step - lo) % step = 0 := by rw [Nat.add_sub_cancel_left]; exact Nat.mul_mod_left _ _
  simp [this, Nat.add_mul]; omega
 ·simp only [a, decide_false, Bool.or_false]
  rw [decide_eq_decide]
  constructor
  ·rintro ⟨b1, b2, b3⟩; exact ⟨b1, by rw [Nat.add_mul]; omega, b3⟩
  ·rintro ⟨b1, b2, b3⟩
   refine ⟨b1, ?_, b3⟩
   obtain ⟨q, hq⟩ := Nat.dvd_of_mod_eq_zero b3
   have h1 : j = lo + step * q := by omega
   subst h1
   have hlt : q < k + 1 := by
    have : step * q < step * (k + 1) := by rw [Nat.mul_comm step (k + 1)]; omega
    exact Nat.lt_of_mul_lt_mul_left this
   have hne : q ≠ k := fun e => a (by rw [e, Nat.mul_comm])
   have : step * q < step * k := Nat.mul_lt_mul_of_pos_left (by omega) hs
   rw [Nat.mul_comm k step]; omega
theorem part_done {lo hi step k N : Nat} (hs : 0 < step) (h : partN lo step (lo + k * step) N) (h1 : hi < lo + k * step) (h2 : k = 0 ∨ lo + (k - 1) * step ≤ hi) : rangeN lo hi step N := by
 refine ⟨h.1, fun j => ?_⟩
 rw [h.2, decide_eq_decide]
 constructor
 ·rintro ⟨b1, b2, b3⟩
  refine ⟨b1, ?_, b3⟩
  obtain ⟨q, hq⟩ := Nat.dvd_of_mod_eq_zero b3
  have e : j = lo + step * q := by omega
  subst e
  rcases h2 with rfl | h2
  ·rw [Nat.zero_mul] at b2; omega
  ·have hlt : q < k := by
    have : step * q < step * k := by rw [Nat.mul_comm step k]; omega
    exact Nat.lt_of_mul_lt_mul_left this
   have : step * q ≤ step * (k - 1) := Nat.mul_le_mul_left _ (by omega)
   rw [Nat.mul_comm step (k - 1)] at this
   omega
 ·rintro ⟨b1, b2, b3⟩; exact ⟨b1, by omega, b3⟩
def GbL (lo hi step : Nat) (v7 v8 : Value) : Prop :=
 ∃ k N : Nat, v7 = .int .u64 (N : Int) ∧ v8 = .int .u64 ((lo + k * step : Nat) : Int) ∧ partN lo step (lo + k * step) N ∧ (k = 0 ∨ lo + (k - 1) * step ≤ hi)
theorem getBits_c (lo hi step : Nat) (h1 : lo ≤ hi) (h2 : hi < 63) (h3 : 0 < step) (h4 : step ≤ 1099511627776) (w : World) :
  Calls Tryz.prog 117 #[.int .u64 (lo : Int), .int .u64 (hi : Int), .int .u64 (step : Int)] w fun e w' => ∃ N : Nat, e = .returned (.int .u64 (N : Int)) ∧ rangeN lo hi step N ∧ w = w' := by
 by_cases hs : step = 1
 ·have hs1 : ((step : Int) == 1) = true := by simp; omega
  obtain ⟨N, hN, hR⟩ := bits_one lo hi h1 h2
  subst hs
  have HN := Lib.hid hN
  have HR := Lib.hid hR
  clear hN hR
  go_enter Tryz.func117, Tryz.ntmps117
  go_wp2
  go_ret
  exact ⟨N, congrArg (fun x => Ending.returned (Value.int .u64 x)) HN.out, HR.out, rfl⟩
 ·have hs1 : ((step : Int) == 1) = false := by simp; omega
  go_enter Tryz.func117, Tryz.ntmps117
  go_wp2
  go_loop [7, 8] (fun v7 v8 => GbL lo hi step v7 v8) (fun _ v8 => (hi + 1 - (intOf v8).toNat))
  case atStart => exact ⟨0, 0, rfl, by simp, ⟨by decide, fun j => by simp; omega⟩, .inl rfl⟩
  case round =>
   obtain ⟨k, N, rfl, rfl, hP, hk⟩ := hrel
   by_cases hle : lo + k * step ≤ hi
   ·obtain ⟨N', hN', hP'⟩ := part_step h3 hP (by omega)
    have HN := Lib.hid hN'
    have HP := Lib.hid hP'
    have he : lo + (k + 1) * step = lo + k * step + step := by rw [Nat.add_mul]; omega
    have HE := Lib.hid he
    clear hN' hP' he hP hk
    obtain ⟨i, hi⟩ : ∃ i, i = lo + k * step := ⟨_, rfl⟩
    have HI := Lib.hid hi
    rw [← hi] at hle HN HE
    rw [← hi]
    clear hi
    have hle' : (i : Int) ≤ (hi : Int) := by omega
    go_wp2
    refine ⟨⟨k + 1, N', congrArg (Value.int .u64) HN.out, ?_, HP.out, .inr (by rw [Nat.add_sub_cancel, ← HI.out]; exact hle)⟩, ?_⟩
    ·rw [HE.out]; simp
    ·simp [intOf]; omega
   ·have hR := part_done h3 hP (by omega) hk
    have HR := Lib.hid hR
    clear hP hk hR
    generalize lo + k * step = i at *
    have hle' : ¬ (i : Int) ≤ (hi : Int) := by omega
    go_wp2
    go_ret
    exact ⟨N, rfl, HR.out, rfl⟩
end Go.Proofs.YtcjdideliifkhaaGreatDoor
