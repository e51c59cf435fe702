/-
  DERIVED: THE SHELF's CONTRACTS AT THIS DUMP, IN PLAIN WORDS (tools/lay-plain.mjs out of 'YbulkbzsuFmtShelfA.lean', which tools/lay-shelf.mjs wrote): THE SAME DECLARATIONS UNDER THE SAME NAMES: 'import', 'namespace', 'open', 'def', 'theorem' AND NOTHING ELSE: no command of the shelf's: FOR A HAND-IN. Each laying: the table of numbers ('.._ren') and one theorem, a field a fact of the dump's own or the kernel's comparison; each contract: ONE APPLICATION.
-/
import Derived.Shelf.LaysM
import Derived.Ground.MpProg
import Derived.Shelf.Pu.ParseUintPublic10
import Derived.Shelf.Strings.LastIndex
import Derived.Test.YbulkbzsuFmtProg
namespace Go.Proofs
open Go.Shelf
def Ybaf.laysPu14_ren : Go.Shelf.Ren := ⟨fun | 14 => 19 | 16 => 34 | 17 => 35 | 19 => 47 | 20 => 48 | 21 => 49 | 22 => 50 | 23 => 51 | 24 => 52 | 25 => 61 | 27 => 62 | 26 => 12 | 28 => 65 | 29 => 66 | 30 => 41 | 31 => 42 | 32 => 43 | 33 => 44 | 35 => 56 | 34 => 55 | 36 => 57 | 37 => 58 | 38 => 59 | 39 => 63 | 40 => 64 | n => n, fun | 9 => 9 | 3 => 3 | 22 => 22 | 24 => 26 | 25 => 47 | 4 => 4 | 34 => 101 | 5 => 5 | 36 => 49 | 37 => 33 | 0 => 0 | 39 => 103 | 21 => 21 | 44 => 119 | 47 => 81 | 50 => 63 | 48 => 61 | 2 => 2 | 52 => 83 | 55 => 86 | 59 => 111 | 60 => 76 | 20 => 20 | 61 => 112 | 65 => 121 | 66 => 122 | 67 => 60 | n => n, fun | 0 => 6 | 1 => 7 | 2 => 2 | 3 => 8 | 4 => 9 | n => n⟩
theorem Ybaf.laysPu14 : Go.Proofs.LaysPu.n14 Ybaf.prog Ybaf.laysPu14_ren := {
  mixed := by kernel_rfl
  f14 := Ybaf.func19.trans (congrArg some (by kernel_rfl))
  f16 := Ybaf.func34.trans (congrArg some (by kernel_rfl))
  f17 := Ybaf.func35.trans (congrArg some (by kernel_rfl))
  f19 := Ybaf.func47.trans (congrArg some (by kernel_rfl))
  f20 := Ybaf.func48.trans (congrArg some (by kernel_rfl))
  f21 := Ybaf.func49.trans (congrArg some (by kernel_rfl))
  f22 := Ybaf.func50.trans (congrArg some (by kernel_rfl))
  f23 := Ybaf.func51.trans (congrArg some (by kernel_rfl))
  f24 := Ybaf.func52.trans (congrArg some (by kernel_rfl))
  f25 := Ybaf.func61.trans (congrArg some (by kernel_rfl))
  f26 := Ybaf.func12.trans (congrArg some (by kernel_rfl))
  f27 := Ybaf.func62.trans (congrArg some (by kernel_rfl))
  f28 := Ybaf.func65.trans (congrArg some (by kernel_rfl))
  f29 := Ybaf.func66.trans (congrArg some (by kernel_rfl))
  f30 := Ybaf.func41.trans (congrArg some (by kernel_rfl))
  f31 := Ybaf.func42.trans (congrArg some (by kernel_rfl))
  f32 := Ybaf.func43.trans (congrArg some (by kernel_rfl))
  f33 := Ybaf.func44.trans (congrArg some (by kernel_rfl))
  f34 := Ybaf.func55.trans (congrArg some (by kernel_rfl))
  f35 := Ybaf.func56.trans (congrArg some (by kernel_rfl))
  f36 := Ybaf.func57.trans (congrArg some (by kernel_rfl))
  f37 := Ybaf.func58.trans (congrArg some (by kernel_rfl))
  f38 := Ybaf.func59.trans (congrArg some (by kernel_rfl))
  f39 := Ybaf.func63.trans (congrArg some (by kernel_rfl))
  f40 := Ybaf.func64.trans (congrArg some (by kernel_rfl))
  t0 := Ybaf.underlying0
  a0 := Ybaf.isAgg0
  z0 := Ybaf.sizeOf0
  v0 := Ybaf.zeroValue0
  i0 := by kernel_rfl
  t2 := Ybaf.underlying2
  a2 := Ybaf.isAgg2
  z2 := Ybaf.sizeOf2
  v2 := Ybaf.zeroValue2
  i2 := by kernel_rfl
  t3 := Ybaf.underlying3
  a3 := Ybaf.isAgg3
  z3 := Ybaf.sizeOf3
  v3 := Ybaf.zeroValue3
  i3 := by kernel_rfl
  t4 := Ybaf.underlying4
  a4 := Ybaf.isAgg4
  z4 := Ybaf.sizeOf4
  v4 := Ybaf.zeroValue4
  i4 := by kernel_rfl
  t5 := Ybaf.underlying5
  a5 := Ybaf.isAgg5
  z5 := Ybaf.sizeOf5
  v5 := Ybaf.zeroValue5
  i5 := by kernel_rfl
  t9 := Ybaf.underlying9
  a9 := Ybaf.isAgg9
  z9 := Ybaf.sizeOf9
  v9 := Ybaf.zeroValue9
  i9 := by kernel_rfl
  t20 := Ybaf.underlying20
  a20 := Ybaf.isAgg20
  z20 := Ybaf.sizeOf20
  v20 := Ybaf.zeroValue20
  i20 := by kernel_rfl
  t21 := Ybaf.underlying21
  a21 := Ybaf.isAgg21
  z21 := Ybaf.sizeOf21
  v21 := Ybaf.zeroValue21
  i21 := by kernel_rfl
  t22 := Ybaf.underlying22
  a22 := Ybaf.isAgg22
  z22 := Ybaf.sizeOf22
  v22 := Ybaf.zeroValue22
  i22 := by kernel_rfl
  t24 := Ybaf.underlying26
  a24 := Ybaf.isAgg26
  z24 := Ybaf.sizeOf26
  v24 := Ybaf.zeroValue26
  i24 := by kernel_rfl
  t25 := Ybaf.underlying47
  a25 := Ybaf.isAgg47
  z25 := Ybaf.sizeOf47
  v25 := Ybaf.zeroValue47
  i25 := by kernel_rfl
  t34 := Ybaf.underlying101
  a34 := Ybaf.isAgg101
  z34 := Ybaf.sizeOf101
  v34 := Ybaf.zeroValue101
  i34 := by kernel_rfl
  c34 := by kernel_rfl
  t36 := Ybaf.underlying49
  a36 := Ybaf.isAgg49
  z36 := Ybaf.sizeOf49
  v36 := Ybaf.zeroValue49
  i36 := by kernel_rfl
  t37 := Ybaf.underlying33
  a37 := Ybaf.isAgg33
  z37 := Ybaf.sizeOf33
  v37 := Ybaf.zeroValue33
  i37 := by kernel_rfl
  t39 := Ybaf.underlying103
  a39 := Ybaf.isAgg103
  z39 := Ybaf.sizeOf103
  v39 := Ybaf.zeroValue103
  i39 := by kernel_rfl
  t44 := Ybaf.underlying119
  a44 := Ybaf.isAgg119
  z44 := Ybaf.sizeOf119
  v44 := Ybaf.zeroValue119
  i44 := by kernel_rfl
  t47 := Ybaf.underlying81
  a47 := Ybaf.isAgg81
  z47 := Ybaf.sizeOf81
  v47 := Ybaf.zeroValue81
  i47 := by kernel_rfl
  t48 := Ybaf.underlying61
  a48 := Ybaf.isAgg61
  z48 := Ybaf.sizeOf61
  v48 := Ybaf.zeroValue61
  i48 := by kernel_rfl
  t50 := Ybaf.underlying63
  a50 := Ybaf.isAgg63
  z50 := Ybaf.sizeOf63
  v50 := Ybaf.zeroValue63
  i50 := by kernel_rfl
  t52 := Ybaf.underlying83
  a52 := Ybaf.isAgg83
  z52 := Ybaf.sizeOf83
  v52 := Ybaf.zeroValue83
  i52 := by kernel_rfl
  t55 := Ybaf.underlying86
  a55 := Ybaf.isAgg86
  z55 := Ybaf.sizeOf86
  v55 := Ybaf.zeroValue86
  i55 := by kernel_rfl
  t59 := Ybaf.underlying111
  a59 := Ybaf.isAgg111
  z59 := Ybaf.sizeOf111
  v59 := Ybaf.zeroValue111
  i59 := by kernel_rfl
  t60 := Ybaf.underlying76
  a60 := Ybaf.isAgg76
  z60 := Ybaf.sizeOf76
  v60 := Ybaf.zeroValue76
  i60 := by kernel_rfl
  t61 := Ybaf.underlying112
  a61 := Ybaf.isAgg112
  z61 := Ybaf.sizeOf112
  t65 := Ybaf.underlying121
  a65 := Ybaf.isAgg121
  z65 := Ybaf.sizeOf121
  v65 := Ybaf.zeroValue121
  i65 := by kernel_rfl
  t66 := Ybaf.underlying122
  a66 := Ybaf.isAgg122
  z66 := Ybaf.sizeOf122
  v66 := Ybaf.zeroValue122
  i66 := by kernel_rfl
  t67 := Ybaf.underlying60
  a67 := Ybaf.isAgg60
  z67 := Ybaf.sizeOf60
  v67 := Ybaf.zeroValue60
  i67 := by kernel_rfl
  g0 := by kernel_rfl
  m0 := by kernel_rfl
  g1 := by kernel_rfl
  m1 := by kernel_rfl
  g2 := by kernel_rfl
  m2 := by kernel_rfl
  g3 := by kernel_rfl
  m3 := by kernel_rfl
  g4 := by kernel_rfl
  m4 := by kernel_rfl }
open Go.RowKit in
/-- strconv.ParseUint(s, 10, 64), AT EVERY STRING THAT SPELLS A uint64 ('Lib.parseUintB 64 s.data.toList = .ok u'): u, AND NO ERROR. (LAID: no walk: one application.) -/
theorem Ybaf.strconv_ParseUint_10_at64_ok (s : ByteArray) (hmax : s.size ≤ 9223372036854775806) (u : Nat) (h : Lib.parseUintB 64 s.data.toList = .ok u) (w : World) :
    Calls Ybaf.prog 19 #[.string s, .int .i64 10, .int .i64 64] w fun e w' => e = .returned (.tuple #[.int .u64 u, .nilIface]) ∧ (w' = w ∨ w' = Lib.bytesWorld w 5 s) := Any.strconv_ParseUint_10_at64_ok Ybaf.laysPu14 s hmax u h w
open Go.RowKit in
/-- strconv.ParseUint(s, 10, 64), AT EVERY STRING THAT IS NO ROW OF DECIMAL DIGITS (a sign is a fault): 0, AND AN ERROR THAT IS NOT nil: a *NumError in a new block N: {Func: "ParseUint", Num: s's bytes, Err: what the variable ErrSyntax holds}. Of what was there nothing has turned. (LAID: no walk: one application.) -/
theorem Ybaf.strconv_ParseUint_10_at64_syntax (s : ByteArray) (hlim : s.size ≤ 281474976710656) (h : Lib.parseUintB 64 s.data.toList = .«syntax») (ev : Value) (w : World) (hv : w.cell? ⟨6, 0, none⟩ = some ev) (hev : ev = .nilIface ∨ ∃ te pe, ev = .iface te pe) :
    Calls Ybaf.prog 19 #[.string s, .int .i64 10, .int .i64 64] w fun e w' => ∃ N, e = .returned (.tuple #[.int .u64 0, .iface 103 (.pointer (some ⟨N, 0, none⟩))]) ∧ w.heap.size ≤ N ∧ w'.heap[N]? = some (.cells #[.string ⟨#[80, 97, 114, 115, 101, 85, 105, 110, 116]⟩, .string s, ev] 119 (0, 0)) ∧ Below w.heap.size w w' := Any.strconv_ParseUint_10_at64_syntax Ybaf.laysPu14 s hlim h ev w hv hev
open Go.RowKit in
/-- strconv.ParseUint(s, 10, 64), AT EVERY NUMERAL THAT NO uint64 HOLDS: THE GREATEST uint64, AND AN ERROR THAT IS NOT nil: a *NumError in a new block N: {Func: "ParseUint", Num: s's bytes, Err: what the variable ErrRange holds}. Of what was there nothing has turned. (LAID: no walk: one application.) -/
theorem Ybaf.strconv_ParseUint_10_at64_range (s : ByteArray) (hlim : s.size ≤ 281474976710656) (h : Lib.parseUintB 64 s.data.toList = .range) (ev : Value) (w : World) (hv : w.cell? ⟨7, 0, none⟩ = some ev) (hev : ev = .nilIface ∨ ∃ te pe, ev = .iface te pe) :
    Calls Ybaf.prog 19 #[.string s, .int .i64 10, .int .i64 64] w fun e w' => ∃ N, e = .returned (.tuple #[.int .u64 18446744073709551615, .iface 103 (.pointer (some ⟨N, 0, none⟩))]) ∧ w.heap.size ≤ N ∧ w'.heap[N]? = some (.cells #[.string ⟨#[80, 97, 114, 115, 101, 85, 105, 110, 116]⟩, .string s, ev] 119 (0, 0)) ∧ Below w.heap.size w w' := Any.strconv_ParseUint_10_at64_range Ybaf.laysPu14 s hlim h ev w hv hev
def Ybaf.lays149_ren : Go.Shelf.Ren := ⟨fun | 149 => 17 | 222 => 32 | n => n, fun | 9 => 9 | 5 => 5 | 3 => 3 | 4 => 4 | n => n, fun | n => n⟩
theorem Ybaf.lays149 : Go.Proofs.Lays.n149 Ybaf.prog Ybaf.lays149_ren := {
  mixed := by kernel_rfl
  f149 := Ybaf.func17.trans (congrArg some (by kernel_rfl))
  f222 := Ybaf.func32.trans (congrArg some (by kernel_rfl))
  t3 := Ybaf.underlying3
  a3 := Ybaf.isAgg3
  z3 := Ybaf.sizeOf3
  v3 := Ybaf.zeroValue3
  t4 := Ybaf.underlying4
  a4 := Ybaf.isAgg4
  z4 := Ybaf.sizeOf4
  v4 := Ybaf.zeroValue4
  t5 := Ybaf.underlying5
  a5 := Ybaf.isAgg5
  z5 := Ybaf.sizeOf5
  v5 := Ybaf.zeroValue5
  t9 := Ybaf.underlying9
  a9 := Ybaf.isAgg9
  z9 := Ybaf.sizeOf9
  v9 := Ybaf.zeroValue9 }
open Go.RowKit Go.Lib in
/-- strings.LastIndexByte: "LastIndexByte returns the index of the last instance of c in s, or -1 if c is not present in s." (LAID: no walk: one application.) -/
theorem Ybaf.strings_LastIndexByte (s : ByteArray) (c : Int) (hs : s.size < 4611686018427387904) (w : World) :
    Calls Ybaf.prog 17 #[.string s, .int .u8 c] w fun e w' => e = .returned (.int .i64 (Lib.lastIndexByte s c)) ∧ w' = w := Any.strings_LastIndexByte Ybaf.lays149 s c hs w
end Go.Proofs
