/-
  DERIVED: THE SHELF's CONTRACTS AT THIS DUMP, IN PLAIN WORDS (tools/lay-plain.mjs out of 'YbulkbzsuFmtShelfB.lean', which tools/lay-shelf.mjs wrote): THE SAME DECLARATIONS UNDER THE SAME NAMES: 'import', 'namespace', 'open', 'def', 'theorem' AND NOTHING ELSE: no command of the shelf's: FOR A HAND-IN. Each laying: the table of numbers ('.._ren') and one theorem, a field a fact of the dump's own or the kernel's comparison; each contract: ONE APPLICATION.
-/
import Derived.Shelf.Strings.Builder1
import Derived.Shelf.Strings.Builder2
import Derived.Shelf.Strconv.Itoa0
import Derived.Shelf.Strconv.Itoa1
import Derived.Shelf.LaysM
import Derived.Shelf.Strconv.Itoa2
import Derived.Shelf.Strings.Repeat
import Derived.Test.YbulkbzsuFmtProg
namespace Go.Proofs
open Go.Shelf
def Ybaf.lays283_ren : Go.Shelf.Ren := ⟨fun | 283 => 41 | n => n, fun | 3 => 3 | 9 => 9 | 4 => 4 | n => n, fun | n => n⟩
theorem Ybaf.lays283 : Go.Proofs.Lays.n283 Ybaf.prog Ybaf.lays283_ren := {
  mixed := by kernel_rfl
  f283 := Ybaf.func41.trans (congrArg some (by kernel_rfl))
  t3 := Ybaf.underlying3
  a3 := Ybaf.isAgg3
  z3 := Ybaf.sizeOf3
  v3 := Ybaf.zeroValue3
  t4 := Ybaf.underlying4
  a4 := Ybaf.isAgg4
  z4 := Ybaf.sizeOf4
  v4 := Ybaf.zeroValue4
  t9 := Ybaf.underlying9
  a9 := Ybaf.isAgg9
  z9 := Ybaf.sizeOf9
  v9 := Ybaf.zeroValue9 }
open Go.Lib in
/-- internal/strconv.small: "small returns the string for an i with 0 <= i < nSmalls.": i's decimal numeral. The world is as it was. (LAID: no walk: one application.) -/
theorem Ybaf.internal_strconv_small (i : Nat) (h : i < 100) (w : World) :
    Calls Ybaf.prog 41 #[.int .i64 i] w fun e w' => e = .returned (.string ⟨(Lib.decDigits i).toArray⟩) ∧ w' = w := Any.internal_strconv_small Ybaf.lays283 i h w
def Ybaf.laysM284_ren : Go.Shelf.Ren := ⟨fun | 284 => 42 | 129 => 56 | 317 => 55 | 318 => 57 | n => n, fun | 53 => 22 | 3 => 3 | 212 => 111 | 0 => 0 | 4 => 4 | 46 => 49 | 5 => 5 | 9 => 9 | n => n, fun | 17 => 2 | n => n⟩
theorem Ybaf.laysM284 : Go.Proofs.LaysM.n284 Ybaf.prog Ybaf.laysM284_ren := {
  mixed := by kernel_rfl
  f129 := Ybaf.func56.trans (congrArg some (by kernel_rfl))
  f284 := Ybaf.func42.trans (congrArg some (by kernel_rfl))
  f317 := Ybaf.func55.trans (congrArg some (by kernel_rfl))
  f318 := Ybaf.func57.trans (congrArg some (by kernel_rfl))
  t0 := Ybaf.underlying0
  a0 := Ybaf.isAgg0
  z0 := Ybaf.sizeOf0
  v0 := Ybaf.zeroValue0
  t3 := Ybaf.underlying3
  a3 := Ybaf.isAgg3
  z3 := Ybaf.sizeOf3
  v3 := Ybaf.zeroValue3
  t4 := Ybaf.underlying4
  a4 := Ybaf.isAgg4
  z4 := Ybaf.sizeOf4
  v4 := Ybaf.zeroValue4
  t5 := Ybaf.underlying5
  a5 := Ybaf.isAgg5
  z5 := Ybaf.sizeOf5
  v5 := Ybaf.zeroValue5
  t9 := Ybaf.underlying9
  a9 := Ybaf.isAgg9
  z9 := Ybaf.sizeOf9
  v9 := Ybaf.zeroValue9
  t46 := Ybaf.underlying49
  a46 := Ybaf.isAgg49
  z46 := Ybaf.sizeOf49
  v46 := Ybaf.zeroValue49
  t53 := Ybaf.underlying22
  a53 := Ybaf.isAgg22
  z53 := Ybaf.sizeOf22
  v53 := Ybaf.zeroValue22
  t212 := Ybaf.underlying111
  a212 := Ybaf.isAgg111
  z212 := Ybaf.sizeOf111
  v212 := Ybaf.zeroValue111
  g17 := by kernel_rfl
  i0 := by kernel_rfl
  i3 := by kernel_rfl
  i4 := by kernel_rfl
  i5 := by kernel_rfl
  i9 := by kernel_rfl
  i46 := by kernel_rfl
  i53 := by kernel_rfl
  i212 := by kernel_rfl
  m17 := by kernel_rfl }
open Go.Lib in
/-- internal/strconv.numDigits, at a d that is not 0: THE NUMBER OF d's DECIMAL DIGITS. The world is as it was. (LAID: no walk: one application.) -/
theorem Ybaf.internal_strconv_numDigits (u : Nat) (h1 : 1 ≤ u) (h2 : u < 18446744073709551616) (w : World) (htab : Lib.TabIs Ybaf.prog w "internal/strconv.uint64pow10" .u64 Lib.pow10Tab) :
    Calls Ybaf.prog 42 #[.int .u64 u] w fun e w' => e = .returned (.int .i64 (Lib.nDigits u)) ∧ w' = w := Any.internal_strconv_numDigits Ybaf.laysM284 u h1 h2 w htab
def Ybaf.lays285_ren : Go.Shelf.Ren := ⟨fun | 285 => 43 | n => n, fun | 37 => 33 | 53 => 22 | 3 => 3 | 4 => 4 | 51 => 76 | 9 => 9 | 5 => 5 | 0 => 0 | n => n, fun | n => n⟩
theorem Ybaf.lays285 : Go.Proofs.Lays.n285 Ybaf.prog Ybaf.lays285_ren := {
  mixed := by kernel_rfl
  f285 := Ybaf.func43.trans (congrArg some (by kernel_rfl))
  t0 := Ybaf.underlying0
  a0 := Ybaf.isAgg0
  z0 := Ybaf.sizeOf0
  v0 := Ybaf.zeroValue0
  t3 := Ybaf.underlying3
  a3 := Ybaf.isAgg3
  z3 := Ybaf.sizeOf3
  v3 := Ybaf.zeroValue3
  t4 := Ybaf.underlying4
  a4 := Ybaf.isAgg4
  z4 := Ybaf.sizeOf4
  v4 := Ybaf.zeroValue4
  t5 := Ybaf.underlying5
  a5 := Ybaf.isAgg5
  z5 := Ybaf.sizeOf5
  v5 := Ybaf.zeroValue5
  t9 := Ybaf.underlying9
  a9 := Ybaf.isAgg9
  z9 := Ybaf.sizeOf9
  v9 := Ybaf.zeroValue9
  t37 := Ybaf.underlying33
  a37 := Ybaf.isAgg33
  z37 := Ybaf.sizeOf33
  v37 := Ybaf.zeroValue33
  t51 := Ybaf.underlying76
  a51 := Ybaf.isAgg76
  z51 := Ybaf.sizeOf76
  v51 := Ybaf.zeroValue76
  t53 := Ybaf.underlying22
  a53 := Ybaf.isAgg22
  z53 := Ybaf.sizeOf22
  v53 := Ybaf.zeroValue22 }
open Go.RowKit Go.Sort Go.Lib in
/-- internal/strconv.formatBase10: "formatBase10 formats the decimal representation of u into a. The caller is responsible for ensuring that a is big enough to hold u. If a is too big, leading zeros will be filled in as needed.": THE ROW HOLDS u's DIGITS ('FmtInv .. 0 ..': every place t holds 'dg u (len - 1 - t)'); all else is as it was but for the count of draws. (LAID: no walk: one application.) -/
theorem Ybaf.internal_strconv_formatBase10 (blk off cap : Nat) (u : Nat) (d : Array UInt8) (w : World) (hH : Holds (fun (b : UInt8) => Value.int .u8 (b.toNat : Int)) w blk off d) (hu : u < 10 ^ d.size) (hu64 : u < 18446744073709551616) (hsz : d.size < 4611686018427387904) :
    Calls Ybaf.prog 43 #[.slice (some ⟨blk, off, none⟩) d.size cap, .int .u64 u] w fun e w' =>
      e = .returned (.tuple #[]) ∧ ∃ (n v' : Nat) (dk : Array UInt8), w' = (putRow (fun (b : UInt8) => Value.int .u8 (b.toNat : Int)) w blk off dk).drewN n ∧ FmtInv d.size u 0 v' dk := Any.internal_strconv_formatBase10 Ybaf.lays285 blk off cap u d w hH hu hu64 hsz
def Ybaf.lays105_ren : Go.Shelf.Ren := ⟨fun | 105 => 8 | 212 => 20 | 99 => 21 | 165 => 22 | 166 => 23 | 170 => 24 | 169 => 25 | 263 => 36 | 264 => 37 | 206 => 38 | 240 => 39 | 241 => 40 | 276 => 53 | 277 => 54 | n => n, fun | 9 => 9 | 3 => 3 | 4 => 4 | 20 => 20 | 0 => 0 | 46 => 49 | 109 => 50 | 5 => 5 | 72 => 55 | 76 => 57 | 51 => 76 | 146 => 77 | 53 => 22 | 148 => 79 | 70 => 53 | 37 => 33 | 75 => 26 | 127 => 81 | 164 => 106 | 80 => 60 | n => n, fun | n => n⟩
theorem Ybaf.lays105 : Go.Proofs.Lays.n105 Ybaf.prog Ybaf.lays105_ren := {
  mixed := by kernel_rfl
  f99 := Ybaf.func21.trans (congrArg some (by kernel_rfl))
  f105 := Ybaf.func8.trans (congrArg some (by kernel_rfl))
  f165 := Ybaf.func22.trans (congrArg some (by kernel_rfl))
  f166 := Ybaf.func23.trans (congrArg some (by kernel_rfl))
  f169 := Ybaf.func25.trans (congrArg some (by kernel_rfl))
  f170 := Ybaf.func24.trans (congrArg some (by kernel_rfl))
  f206 := Ybaf.func38.trans (congrArg some (by kernel_rfl))
  f212 := Ybaf.func20.trans (congrArg some (by kernel_rfl))
  f240 := Ybaf.func39.trans (congrArg some (by kernel_rfl))
  f241 := Ybaf.func40.trans (congrArg some (by kernel_rfl))
  f263 := Ybaf.func36.trans (congrArg some (by kernel_rfl))
  f264 := Ybaf.func37.trans (congrArg some (by kernel_rfl))
  f276 := Ybaf.func53.trans (congrArg some (by kernel_rfl))
  f277 := Ybaf.func54.trans (congrArg some (by kernel_rfl))
  t0 := Ybaf.underlying0
  a0 := Ybaf.isAgg0
  z0 := Ybaf.sizeOf0
  v0 := Ybaf.zeroValue0
  t3 := Ybaf.underlying3
  a3 := Ybaf.isAgg3
  z3 := Ybaf.sizeOf3
  v3 := Ybaf.zeroValue3
  t4 := Ybaf.underlying4
  a4 := Ybaf.isAgg4
  z4 := Ybaf.sizeOf4
  v4 := Ybaf.zeroValue4
  t5 := Ybaf.underlying5
  a5 := Ybaf.isAgg5
  z5 := Ybaf.sizeOf5
  v5 := Ybaf.zeroValue5
  t9 := Ybaf.underlying9
  a9 := Ybaf.isAgg9
  z9 := Ybaf.sizeOf9
  v9 := Ybaf.zeroValue9
  t20 := Ybaf.underlying20
  a20 := Ybaf.isAgg20
  z20 := Ybaf.sizeOf20
  v20 := Ybaf.zeroValue20
  t37 := Ybaf.underlying33
  a37 := Ybaf.isAgg33
  z37 := Ybaf.sizeOf33
  v37 := Ybaf.zeroValue33
  t46 := Ybaf.underlying49
  a46 := Ybaf.isAgg49
  z46 := Ybaf.sizeOf49
  v46 := Ybaf.zeroValue49
  t51 := Ybaf.underlying76
  a51 := Ybaf.isAgg76
  z51 := Ybaf.sizeOf76
  v51 := Ybaf.zeroValue76
  t53 := Ybaf.underlying22
  a53 := Ybaf.isAgg22
  z53 := Ybaf.sizeOf22
  v53 := Ybaf.zeroValue22
  t70 := Ybaf.underlying53
  a70 := Ybaf.isAgg53
  z70 := Ybaf.sizeOf53
  v70 := Ybaf.zeroValue53
  t72 := Ybaf.underlying55
  a72 := Ybaf.isAgg55
  z72 := Ybaf.sizeOf55
  v72 := Ybaf.zeroValue55
  t75 := Ybaf.underlying26
  a75 := Ybaf.isAgg26
  z75 := Ybaf.sizeOf26
  v75 := Ybaf.zeroValue26
  t76 := Ybaf.underlying57
  a76 := Ybaf.isAgg57
  z76 := Ybaf.sizeOf57
  v76 := Ybaf.zeroValue57
  t109 := Ybaf.underlying50
  a109 := Ybaf.isAgg50
  z109 := Ybaf.sizeOf50
  v109 := Ybaf.zeroValue50
  t127 := Ybaf.underlying81
  a127 := Ybaf.isAgg81
  z127 := Ybaf.sizeOf81
  v127 := Ybaf.zeroValue81
  t146 := Ybaf.underlying77
  a146 := Ybaf.isAgg77
  z146 := Ybaf.sizeOf77
  v146 := Ybaf.zeroValue77
  t148 := Ybaf.underlying79
  a148 := Ybaf.isAgg79
  z148 := Ybaf.sizeOf79
  v148 := Ybaf.zeroValue79
  t164 := Ybaf.underlying106
  a164 := Ybaf.isAgg106
  z164 := Ybaf.sizeOf106
  v164 := Ybaf.zeroValue106 }
theorem Ybaf.Builder_Extra_105 : Builder.Extra Ybaf.prog Ybaf.lays105_ren := {
  sizeBuilder := by kernel_rfl
  liesBuilder := by kernel_rfl
  t5 := Ybaf.underlying5
  a5 := Ybaf.isAgg5
  z5 := Ybaf.sizeOf5
  v5 := Ybaf.zeroValue5
  infoByte := by kernel_rfl
  cellsByte := by kernel_rfl
  sizeByte := by kernel_rfl
  neB5 := by decide }
open Go.RowKit Go.Lib in
/-- THE MAIN CASE: at least two copies of a string that is not empty. (LAID: no walk: one application.) -/
theorem Ybaf.strings_Repeat_main (s : ByteArray) (c : Nat) (w : World) (hc2 : 2 ≤ c) (hc : c ≤ 9223372036854775807) (hlen : s.size * c ≤ 140737488355328) (h0 : 0 < s.size) :
    Calls Ybaf.prog 8 #[.string s, .int .i64 c] w fun e w' => e = .returned (.string ⟨(Lib.repeatL s.data.toList c).toArray⟩) ∧ Below w.heap.size w w' := Any.strings_Repeat_main Ybaf.lays105 Ybaf.Builder_Extra_105 s c w hc2 hc hlen h0
open Go.RowKit Go.Lib in
/-- **strings.Repeat: count ≥ 0, the result within one allocation: count copies of s.** (LAID: no walk: one application.) -/
theorem Ybaf.strings_Repeat (s : ByteArray) (c : Nat) (w : World) (hc : c ≤ 9223372036854775807) (hlen : s.size * c ≤ 140737488355328) :
    Calls Ybaf.prog 8 #[.string s, .int .i64 c] w fun e w' => e = .returned (.string ⟨(Lib.repeatL s.data.toList c).toArray⟩) ∧ Below w.heap.size w w' := Any.strings_Repeat Ybaf.lays105 Ybaf.Builder_Extra_105 s c w hc hlen
end Go.Proofs
