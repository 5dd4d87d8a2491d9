import Derived.Shelf.Strconv.ParseIntPublic10
import Derived.Shelf.Bytes.SlSmallAll
import Derived.Shelf.Bytes.SlEqualAll
import Derived.Lib.ConvBytes
import Derived.Test.Qxb6602238aDoorProg
/- The layings (the kit's lay-shelf.mjs and lay-plain.mjs wrote them for this dump): strconv.ParseInt and bytes.HasPrefix by their contracts. -/
namespace Go.Proofs
open Go.Shelf
def Tryd.laysC174_ren : Go.Shelf.Ren := ⟨fun | 174 => 16 | 247 => 24 | 245 => 25 | 287 => 27 | 279 => 28 | 280 => 29 | 281 => 30 | 282 => 31 | 321 => 32 | 322 => 33 | 316 => 34 | 171 => 36 | 205 => 35 | 243 => 37 | 246 => 38 | 283 => 39 | 284 => 40 | 285 => 41 | 286 => 42 | 129 => 44 | 317 => 43 | 318 => 45 | 319 => 46 | 320 => 47 | 337 => 48 | 338 => 49 | n => n, fun | 9 => 9 | 3 => 3 | 2 => 2 | 75 => 42 | 85 => 43 | 4 => 4 | 167 => 50 | 5 => 5 | 53 => 51 | 175 => 52 | 46 => 47 | 168 => 54 | 37 => 22 | 0 => 0 | 210 => 60 | 21 => 21 | 127 => 63 | 145 => 66 | 143 => 64 | 171 => 68 | 173 => 71 | 212 => 75 | 51 => 76 | 20 => 20 | 213 => 77 | 232 => 80 | 233 => 81 | 80 => 84 | n => n, fun | 15 => 0 | 16 => 1 | 17 => 2 | 18 => 3 | 19 => 4 | n => n⟩
theorem Tryd.laysC174 : Go.Proofs.LaysC.n174 Tryd.prog Tryd.laysC174_ren := {
  mixed := by kernel_rfl
  f129 := Tryd.func44.trans (congrArg some (by kernel_rfl))
  f171 := Tryd.func36.trans (congrArg some (by kernel_rfl))
  f174 := Tryd.func16.trans (congrArg some (by kernel_rfl))
  f205 := Tryd.func35.trans (congrArg some (by kernel_rfl))
  f243 := Tryd.func37.trans (congrArg some (by kernel_rfl))
  f245 := Tryd.func25.trans (congrArg some (by kernel_rfl))
  f246 := Tryd.func38.trans (congrArg some (by kernel_rfl))
  f247 := Tryd.func24.trans (congrArg some (by kernel_rfl))
  f279 := Tryd.func28.trans (congrArg some (by kernel_rfl))
  f280 := Tryd.func29.trans (congrArg some (by kernel_rfl))
  f281 := Tryd.func30.trans (congrArg some (by kernel_rfl))
  f282 := Tryd.func31.trans (congrArg some (by kernel_rfl))
  f283 := Tryd.func39.trans (congrArg some (by kernel_rfl))
  f284 := Tryd.func40.trans (congrArg some (by kernel_rfl))
  f285 := Tryd.func41.trans (congrArg some (by kernel_rfl))
  f286 := Tryd.func42.trans (congrArg some (by kernel_rfl))
  f287 := Tryd.func27.trans (congrArg some (by kernel_rfl))
  f316 := Tryd.func34.trans (congrArg some (by kernel_rfl))
  f317 := Tryd.func43.trans (congrArg some (by kernel_rfl))
  f318 := Tryd.func45.trans (congrArg some (by kernel_rfl))
  f319 := Tryd.func46.trans (congrArg some (by kernel_rfl))
  f320 := Tryd.func47.trans (congrArg some (by kernel_rfl))
  f321 := Tryd.func32.trans (congrArg some (by kernel_rfl))
  f322 := Tryd.func33.trans (congrArg some (by kernel_rfl))
  f337 := Tryd.func48.trans (congrArg some (by kernel_rfl))
  f338 := Tryd.func49.trans (congrArg some (by kernel_rfl))
  t0 := Tryd.underlying0
  a0 := Tryd.isAgg0
  z0 := Tryd.sizeOf0
  v0 := Tryd.zeroValue0
  t2 := Tryd.underlying2
  a2 := Tryd.isAgg2
  z2 := Tryd.sizeOf2
  v2 := Tryd.zeroValue2
  t3 := Tryd.underlying3
  a3 := Tryd.isAgg3
  z3 := Tryd.sizeOf3
  v3 := Tryd.zeroValue3
  t4 := Tryd.underlying4
  a4 := Tryd.isAgg4
  z4 := Tryd.sizeOf4
  v4 := Tryd.zeroValue4
  t5 := Tryd.underlying5
  a5 := Tryd.isAgg5
  z5 := Tryd.sizeOf5
  v5 := Tryd.zeroValue5
  t9 := Tryd.underlying9
  a9 := Tryd.isAgg9
  z9 := Tryd.sizeOf9
  v9 := Tryd.zeroValue9
  t20 := Tryd.underlying20
  a20 := Tryd.isAgg20
  z20 := Tryd.sizeOf20
  v20 := Tryd.zeroValue20
  t21 := Tryd.underlying21
  a21 := Tryd.isAgg21
  z21 := Tryd.sizeOf21
  v21 := Tryd.zeroValue21
  t37 := Tryd.underlying22
  a37 := Tryd.isAgg22
  z37 := Tryd.sizeOf22
  v37 := Tryd.zeroValue22
  t46 := Tryd.underlying47
  a46 := Tryd.isAgg47
  z46 := Tryd.sizeOf47
  v46 := Tryd.zeroValue47
  t51 := Tryd.underlying76
  a51 := Tryd.isAgg76
  z51 := Tryd.sizeOf76
  v51 := Tryd.zeroValue76
  t53 := Tryd.underlying51
  a53 := Tryd.isAgg51
  z53 := Tryd.sizeOf51
  v53 := Tryd.zeroValue51
  t75 := Tryd.underlying42
  a75 := Tryd.isAgg42
  z75 := Tryd.sizeOf42
  v75 := Tryd.zeroValue42
  t85 := Tryd.underlying43
  a85 := Tryd.isAgg43
  z85 := Tryd.sizeOf43
  v85 := Tryd.zeroValue43
  t127 := Tryd.underlying63
  a127 := Tryd.isAgg63
  z127 := Tryd.sizeOf63
  v127 := Tryd.zeroValue63
  t143 := Tryd.underlying64
  a143 := Tryd.isAgg64
  z143 := Tryd.sizeOf64
  v143 := Tryd.zeroValue64
  t145 := Tryd.underlying66
  a145 := Tryd.isAgg66
  z145 := Tryd.sizeOf66
  v145 := Tryd.zeroValue66
  t167 := Tryd.underlying50
  a167 := Tryd.isAgg50
  z167 := Tryd.sizeOf50
  v167 := Tryd.zeroValue50
  t168 := Tryd.underlying54
  a168 := Tryd.isAgg54
  z168 := Tryd.sizeOf54
  v168 := Tryd.zeroValue54
  t171 := Tryd.underlying68
  a171 := Tryd.isAgg68
  z171 := Tryd.sizeOf68
  v171 := Tryd.zeroValue68
  t173 := Tryd.underlying71
  a173 := Tryd.isAgg71
  z173 := Tryd.sizeOf71
  v173 := Tryd.zeroValue71
  t175 := Tryd.underlying52
  a175 := Tryd.isAgg52
  z175 := Tryd.sizeOf52
  v175 := Tryd.zeroValue52
  t210 := Tryd.underlying60
  a210 := Tryd.isAgg60
  z210 := Tryd.sizeOf60
  v210 := Tryd.zeroValue60
  t212 := Tryd.underlying75
  a212 := Tryd.isAgg75
  z212 := Tryd.sizeOf75
  v212 := Tryd.zeroValue75
  t213 := Tryd.underlying77
  a213 := Tryd.isAgg77
  z213 := Tryd.sizeOf77
  t232 := Tryd.underlying80
  a232 := Tryd.isAgg80
  z232 := Tryd.sizeOf80
  v232 := Tryd.zeroValue80
  t233 := Tryd.underlying81
  a233 := Tryd.isAgg81
  z233 := Tryd.sizeOf81
  v233 := Tryd.zeroValue81
  g15 := by kernel_rfl
  g16 := by kernel_rfl
  g17 := by kernel_rfl
  g18 := by kernel_rfl
  g19 := by kernel_rfl
  t80 := Tryd.underlying84
  a80 := Tryd.isAgg84
  z80 := Tryd.sizeOf84
  v80 := Tryd.zeroValue84
  i0 := by kernel_rfl
  i2 := by kernel_rfl
  i3 := by kernel_rfl
  i4 := by kernel_rfl
  i5 := by kernel_rfl
  i9 := by kernel_rfl
  i20 := by kernel_rfl
  i21 := by kernel_rfl
  i37 := by kernel_rfl
  i46 := by kernel_rfl
  i51 := by kernel_rfl
  i53 := by kernel_rfl
  i75 := by kernel_rfl
  i80 := by kernel_rfl
  i85 := by kernel_rfl
  i127 := by kernel_rfl
  i143 := by kernel_rfl
  i145 := by kernel_rfl
  i167 := by kernel_rfl
  i168 := by kernel_rfl
  i171 := by kernel_rfl
  i173 := by kernel_rfl
  i175 := by kernel_rfl
  i210 := by kernel_rfl
  i212 := by kernel_rfl
  i232 := by kernel_rfl
  i233 := by kernel_rfl
  m15 := by kernel_rfl
  m16 := by kernel_rfl
  m17 := by kernel_rfl
  m18 := by kernel_rfl
  m19 := by kernel_rfl
  c0 := by kernel_rfl
  c2 := by kernel_rfl
  c3 := by kernel_rfl
  c4 := by kernel_rfl
  c5 := by kernel_rfl
  c9 := by kernel_rfl
  c20 := by kernel_rfl
  c21 := by kernel_rfl
  c37 := by kernel_rfl
  c46 := by kernel_rfl
  c51 := by kernel_rfl
  c53 := by kernel_rfl
  c75 := by kernel_rfl
  c80 := by kernel_rfl
  c85 := by kernel_rfl
  c127 := by kernel_rfl
  c143 := by kernel_rfl
  c145 := by kernel_rfl
  c167 := by kernel_rfl
  c168 := by kernel_rfl
  c171 := by kernel_rfl
  c173 := by kernel_rfl
  c175 := by kernel_rfl
  c210 := by kernel_rfl
  c212 := by kernel_rfl
  c213 := by kernel_rfl
  c232 := by kernel_rfl
  c233 := by kernel_rfl }
def Tryd.laysnb116_ren : Go.Shelf.Ren := ⟨fun | 116 => 20 | 115 => 26 | n => n, fun | 37 => 22 | 4 => 4 | 3 => 3 | 9 => 9 | 5 => 5 | n => n, fun | n => n⟩
theorem Tryd.laysnb116 : Go.Proofs.Lays.nb116 Tryd.prog Tryd.laysnb116_ren := {
  mixed := by kernel_rfl
  f115 := Tryd.func26.trans (congrArg some (by kernel_rfl))
  f116 := Tryd.func20.trans (congrArg some (by kernel_rfl))
  t3 := Tryd.underlying3
  a3 := Tryd.isAgg3
  z3 := Tryd.sizeOf3
  v3 := Tryd.zeroValue3
  t4 := Tryd.underlying4
  a4 := Tryd.isAgg4
  z4 := Tryd.sizeOf4
  v4 := Tryd.zeroValue4
  t9 := Tryd.underlying9
  a9 := Tryd.isAgg9
  z9 := Tryd.sizeOf9
  v9 := Tryd.zeroValue9
  t37 := Tryd.underlying22
  a37 := Tryd.isAgg22
  z37 := Tryd.sizeOf22
  v37 := Tryd.zeroValue22
  t5 := Tryd.underlying5
  a5 := Tryd.isAgg5
  z5 := Tryd.sizeOf5
  v5 := Tryd.zeroValue5 }
theorem Tryd.bytes_HasPrefix_all (p1 p2 : Option Addr) (n c m d : Nat) (xs ys : List Int) (w : World) (hx : xs.length = n) (hy : ys.length = m) (hnc : n ≤ c) (h1 : Lib.BytesIn w p1 n xs) (h2 : Lib.BytesIn w p2 m ys) :
    Calls Tryd.prog 20 #[.slice p1 n c, .slice p2 m d] w fun e w' => e = .returned (.bool (Lib.hasPrefix (Lib.bytesOf xs) (Lib.bytesOf ys))) ∧ w' = w := Any.bytes_HasPrefix_all Tryd.laysnb116 p1 p2 n c m d xs ys w hx hy hnc h1 h2
open Go.RowKit

/-- strconv.ParseInt(s, 10, 64) at a string that spells an int64: the number, no error; nothing that was there has turned. -/
theorem Tryd.parse_ok (s : ByteArray) (hmax : s.size ≤ 1000000000) (v : Int) (h : Lib.parseIntB 64 s.data.toList = .ok v) (w : World) :
    Calls Tryd.prog 16 #[.string s, .int .i64 10, .int .i64 64] w fun e w' => e = .returned (.tuple #[.int .i64 v, .nilIface]) ∧ Below w.heap.size w w' := by
  refine (Any.strconv_ParseInt_10_at64_ok Tryd.laysC174 s (by omega) v h w).mono ?_
  rintro e w' ⟨rfl, rfl | ⟨t, rfl⟩⟩
  · exact ⟨rfl, Below.refl _ _⟩
  · exact ⟨rfl, Lib.bytesWorld_below _ _ _⟩

/-- .. at every other string: an error that is not nil. -/
theorem Tryd.parse_bad (s : ByteArray) (hmax : s.size ≤ 1000000000) (h : ∀ v, Lib.parseIntB 64 s.data.toList ≠ .ok v) (e0 e1 : Value) (w : World)
    (hv0 : w.cell? ⟨0, 0, none⟩ = some e0) (he0 : e0 = .nilIface ∨ ∃ te pe, e0 = .iface te pe) (hv1 : w.cell? ⟨1, 0, none⟩ = some e1) (he1 : e1 = .nilIface ∨ ∃ te pe, e1 = .iface te pe) :
    Calls Tryd.prog 16 #[.string s, .int .i64 10, .int .i64 64] w fun e w' => ∃ (v : Int) (N : Nat), e = .returned (.tuple #[.int .i64 v, .iface 54 (.pointer (some ⟨N, 0, none⟩))]) ∧ Below w.heap.size w w' := by
  cases hE : Lib.parseIntB 64 s.data.toList
  · exact absurd hE (h _)
  · refine (Any.strconv_ParseInt_10_at64_syntax Tryd.laysC174 s (by omega) hE e0 w hv0 he0).mono ?_
    rintro e w' ⟨N, rfl, _, _, hb⟩
    exact ⟨_, N, rfl, hb⟩
  · refine (Any.strconv_ParseInt_10_at64_range Tryd.laysC174 s (by omega) hE e1 w hv1 he1).mono ?_
    rintro e w' ⟨N, rfl, _, _, hb⟩
    exact ⟨_, N, rfl, hb⟩

end Go.Proofs
