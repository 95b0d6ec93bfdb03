/-
  The shelf's contracts that the road of 'FormatAmount' wants, laid at this dump in plain words (tools lay-shelf.mjs, lay-plain.mjs), the others struck; the table's name is taken off the given row.
-/
import Derived.Shelf.Strconv.Itoa1
import Derived.Shelf.LaysM
import Derived.Shelf.Strconv.Itoa2
import Derived.Shelf.Strings.Repeat
import Derived.Test.Qxb6628869aDoorRows
namespace Go.Proofs
open Go.Shelf
/-- The name of the table of powers of ten, off the given row. -/
abbrev Tryd.pow10Name : String := Qxb6628869aDoor.Rows.fnFormatAmountReadsBackExactlyRow.named.headD Qxb6628869aDoor.Rows.fnFormatAmountReadsBackExactlyRow.spec
def Tryd.lays283_ren : Go.Shelf.Ren := ⟨fun | 283 => 17 | n => n, fun | 3 => 3 | 9 => 9 | 4 => 4 | n => n, fun | n => n⟩
theorem Tryd.lays283 : Go.Proofs.Lays.n283 Tryd.prog Tryd.lays283_ren := {
  mixed := by kernel_rfl
  f283 := Tryd.func17.trans (congrArg some (by kernel_rfl))
  t3 := Tryd.underlying3
  a3 := Tryd.isAgg3
  z3 := Tryd.sizeOf3
  v3 := Tryd.zeroValue3
  t4 := Tryd.underlying4
  a4 := Tryd.isAgg4
  z4 := Tryd.sizeOf4
  v4 := Tryd.zeroValue4
  t9 := Tryd.underlying9
  a9 := Tryd.isAgg9
  z9 := Tryd.sizeOf9
  v9 := Tryd.zeroValue9 }
open Go.Lib in
/-- internal/strconv.small: "small returns the string for an i with 0 <= i < nSmalls.": i's decimal numeral. The world is as it was. (LAID: no walk: one application.) -/
theorem Tryd.internal_strconv_small (i : Nat) (h : i < 100) (w : World) :
    Calls Tryd.prog 17 #[.int .i64 i] w fun e w' => e = .returned (.string ⟨(Lib.decDigits i).toArray⟩) ∧ w' = w := Any.internal_strconv_small Tryd.lays283 i h w
def Tryd.laysM284_ren : Go.Shelf.Ren := ⟨fun | 284 => 18 | 129 => 27 | 317 => 26 | 318 => 28 | n => n, fun | 53 => 26 | 3 => 3 | 212 => 58 | 0 => 0 | 4 => 4 | 46 => 29 | 5 => 5 | 9 => 9 | n => n, fun | 17 => 0 | n => n⟩
theorem Tryd.laysM284 : Go.Proofs.LaysM.n284 Tryd.prog Tryd.laysM284_ren := {
  mixed := by kernel_rfl
  f129 := Tryd.func27.trans (congrArg some (by kernel_rfl))
  f284 := Tryd.func18.trans (congrArg some (by kernel_rfl))
  f317 := Tryd.func26.trans (congrArg some (by kernel_rfl))
  f318 := Tryd.func28.trans (congrArg some (by kernel_rfl))
  t0 := Tryd.underlying0
  a0 := Tryd.isAgg0
  z0 := Tryd.sizeOf0
  v0 := Tryd.zeroValue0
  t3 := Tryd.underlying3
  a3 := Tryd.isAgg3
  z3 := Tryd.sizeOf3
  v3 := Tryd.zeroValue3
  t4 := Tryd.underlying4
  a4 := Tryd.isAgg4
  z4 := Tryd.sizeOf4
  v4 := Tryd.zeroValue4
  t5 := Tryd.underlying5
  a5 := Tryd.isAgg5
  z5 := Tryd.sizeOf5
  v5 := Tryd.zeroValue5
  t9 := Tryd.underlying9
  a9 := Tryd.isAgg9
  z9 := Tryd.sizeOf9
  v9 := Tryd.zeroValue9
  t46 := Tryd.underlying29
  a46 := Tryd.isAgg29
  z46 := Tryd.sizeOf29
  v46 := Tryd.zeroValue29
  t53 := Tryd.underlying26
  a53 := Tryd.isAgg26
  z53 := Tryd.sizeOf26
  v53 := Tryd.zeroValue26
  t212 := Tryd.underlying58
  a212 := Tryd.isAgg58
  z212 := Tryd.sizeOf58
  v212 := Tryd.zeroValue58
  g17 := by kernel_rfl
  i0 := by kernel_rfl
  i3 := by kernel_rfl
  i4 := by kernel_rfl
  i5 := by kernel_rfl
  i9 := by kernel_rfl
  i46 := by kernel_rfl
  i53 := by kernel_rfl
  i212 := by kernel_rfl
  m17 := by kernel_rfl }
open Go.Lib in
/-- internal/strconv.numDigits, at a d that is not 0: THE NUMBER OF d's DECIMAL DIGITS. The world is as it was. (LAID: no walk: one application.) -/
theorem Tryd.internal_strconv_numDigits (u : Nat) (h1 : 1 ≤ u) (h2 : u < 18446744073709551616) (w : World) (htab : Lib.TabIs Tryd.prog w Tryd.pow10Name .u64 Lib.pow10Tab) :
    Calls Tryd.prog 18 #[.int .u64 u] w fun e w' => e = .returned (.int .i64 (Lib.nDigits u)) ∧ w' = w := Any.internal_strconv_numDigits Tryd.laysM284 u h1 h2 w htab
def Tryd.lays285_ren : Go.Shelf.Ren := ⟨fun | 285 => 19 | n => n, fun | 37 => 34 | 53 => 26 | 3 => 3 | 4 => 4 | 51 => 50 | 9 => 9 | 5 => 5 | 0 => 0 | n => n, fun | n => n⟩
theorem Tryd.lays285 : Go.Proofs.Lays.n285 Tryd.prog Tryd.lays285_ren := {
  mixed := by kernel_rfl
  f285 := Tryd.func19.trans (congrArg some (by kernel_rfl))
  t0 := Tryd.underlying0
  a0 := Tryd.isAgg0
  z0 := Tryd.sizeOf0
  v0 := Tryd.zeroValue0
  t3 := Tryd.underlying3
  a3 := Tryd.isAgg3
  z3 := Tryd.sizeOf3
  v3 := Tryd.zeroValue3
  t4 := Tryd.underlying4
  a4 := Tryd.isAgg4
  z4 := Tryd.sizeOf4
  v4 := Tryd.zeroValue4
  t5 := Tryd.underlying5
  a5 := Tryd.isAgg5
  z5 := Tryd.sizeOf5
  v5 := Tryd.zeroValue5
  t9 := Tryd.underlying9
  a9 := Tryd.isAgg9
  z9 := Tryd.sizeOf9
  v9 := Tryd.zeroValue9
  t37 := Tryd.underlying34
  a37 := Tryd.isAgg34
  z37 := Tryd.sizeOf34
  v37 := Tryd.zeroValue34
  t51 := Tryd.underlying50
  a51 := Tryd.isAgg50
  z51 := Tryd.sizeOf50
  v51 := Tryd.zeroValue50
  t53 := Tryd.underlying26
  a53 := Tryd.isAgg26
  z53 := Tryd.sizeOf26
  v53 := Tryd.zeroValue26 }
open Go.RowKit Go.Sort Go.Lib in
/-- internal/strconv.formatBase10: "formatBase10 formats the decimal representation of u into a. The caller is responsible for ensuring that a is big enough to hold u. If a is too big, leading zeros will be filled in as needed.": THE ROW HOLDS u's DIGITS ('FmtInv .. 0 ..': every place t holds 'dg u (len - 1 - t)'); all else is as it was but for the count of draws. (LAID: no walk: one application.) -/
theorem Tryd.internal_strconv_formatBase10 (blk off cap : Nat) (u : Nat) (d : Array UInt8) (w : World) (hH : Holds (fun (b : UInt8) => Value.int .u8 (b.toNat : Int)) w blk off d) (hu : u < 10 ^ d.size) (hu64 : u < 18446744073709551616) (hsz : d.size < 4611686018427387904) :
    Calls Tryd.prog 19 #[.slice (some ⟨blk, off, none⟩) d.size cap, .int .u64 u] w fun e w' =>
      e = .returned (.tuple #[]) ∧ ∃ (n v' : Nat) (dk : Array UInt8), w' = (putRow (fun (b : UInt8) => Value.int .u8 (b.toNat : Int)) w blk off dk).drewN n ∧ FmtInv d.size u 0 v' dk := Any.internal_strconv_formatBase10 Tryd.lays285 blk off cap u d w hH hu hu64 hsz
def Tryd.lays105_ren : Go.Shelf.Ren := ⟨fun | 105 => 9 | 212 => 11 | 99 => 12 | 165 => 13 | 166 => 14 | 170 => 15 | 169 => 16 | 263 => 21 | 264 => 22 | 206 => 23 | 240 => 24 | 241 => 25 | 276 => 31 | 277 => 32 | n => n, fun | 9 => 9 | 3 => 3 | 4 => 4 | 20 => 20 | 0 => 0 | 46 => 29 | 109 => 30 | 5 => 5 | 72 => 36 | 76 => 40 | 51 => 50 | 146 => 51 | 53 => 26 | 148 => 53 | 70 => 33 | 37 => 34 | 75 => 39 | 127 => 55 | 164 => 62 | 80 => 43 | n => n, fun | n => n⟩
theorem Tryd.lays105 : Go.Proofs.Lays.n105 Tryd.prog Tryd.lays105_ren := {
  mixed := by kernel_rfl
  f99 := Tryd.func12.trans (congrArg some (by kernel_rfl))
  f105 := Tryd.func9.trans (congrArg some (by kernel_rfl))
  f165 := Tryd.func13.trans (congrArg some (by kernel_rfl))
  f166 := Tryd.func14.trans (congrArg some (by kernel_rfl))
  f169 := Tryd.func16.trans (congrArg some (by kernel_rfl))
  f170 := Tryd.func15.trans (congrArg some (by kernel_rfl))
  f206 := Tryd.func23.trans (congrArg some (by kernel_rfl))
  f212 := Tryd.func11.trans (congrArg some (by kernel_rfl))
  f240 := Tryd.func24.trans (congrArg some (by kernel_rfl))
  f241 := Tryd.func25.trans (congrArg some (by kernel_rfl))
  f263 := Tryd.func21.trans (congrArg some (by kernel_rfl))
  f264 := Tryd.func22.trans (congrArg some (by kernel_rfl))
  f276 := Tryd.func31.trans (congrArg some (by kernel_rfl))
  f277 := Tryd.func32.trans (congrArg some (by kernel_rfl))
  t0 := Tryd.underlying0
  a0 := Tryd.isAgg0
  z0 := Tryd.sizeOf0
  v0 := Tryd.zeroValue0
  t3 := Tryd.underlying3
  a3 := Tryd.isAgg3
  z3 := Tryd.sizeOf3
  v3 := Tryd.zeroValue3
  t4 := Tryd.underlying4
  a4 := Tryd.isAgg4
  z4 := Tryd.sizeOf4
  v4 := Tryd.zeroValue4
  t5 := Tryd.underlying5
  a5 := Tryd.isAgg5
  z5 := Tryd.sizeOf5
  v5 := Tryd.zeroValue5
  t9 := Tryd.underlying9
  a9 := Tryd.isAgg9
  z9 := Tryd.sizeOf9
  v9 := Tryd.zeroValue9
  t20 := Tryd.underlying20
  a20 := Tryd.isAgg20
  z20 := Tryd.sizeOf20
  v20 := Tryd.zeroValue20
  t37 := Tryd.underlying34
  a37 := Tryd.isAgg34
  z37 := Tryd.sizeOf34
  v37 := Tryd.zeroValue34
  t46 := Tryd.underlying29
  a46 := Tryd.isAgg29
  z46 := Tryd.sizeOf29
  v46 := Tryd.zeroValue29
  t51 := Tryd.underlying50
  a51 := Tryd.isAgg50
  z51 := Tryd.sizeOf50
  v51 := Tryd.zeroValue50
  t53 := Tryd.underlying26
  a53 := Tryd.isAgg26
  z53 := Tryd.sizeOf26
  v53 := Tryd.zeroValue26
  t70 := Tryd.underlying33
  a70 := Tryd.isAgg33
  z70 := Tryd.sizeOf33
  v70 := Tryd.zeroValue33
  t72 := Tryd.underlying36
  a72 := Tryd.isAgg36
  z72 := Tryd.sizeOf36
  v72 := Tryd.zeroValue36
  t75 := Tryd.underlying39
  a75 := Tryd.isAgg39
  z75 := Tryd.sizeOf39
  v75 := Tryd.zeroValue39
  t76 := Tryd.underlying40
  a76 := Tryd.isAgg40
  z76 := Tryd.sizeOf40
  v76 := Tryd.zeroValue40
  t109 := Tryd.underlying30
  a109 := Tryd.isAgg30
  z109 := Tryd.sizeOf30
  v109 := Tryd.zeroValue30
  t127 := Tryd.underlying55
  a127 := Tryd.isAgg55
  z127 := Tryd.sizeOf55
  v127 := Tryd.zeroValue55
  t146 := Tryd.underlying51
  a146 := Tryd.isAgg51
  z146 := Tryd.sizeOf51
  v146 := Tryd.zeroValue51
  t148 := Tryd.underlying53
  a148 := Tryd.isAgg53
  z148 := Tryd.sizeOf53
  v148 := Tryd.zeroValue53
  t164 := Tryd.underlying62
  a164 := Tryd.isAgg62
  z164 := Tryd.sizeOf62
  v164 := Tryd.zeroValue62 }
theorem Tryd.Builder_Extra_105 : Builder.Extra Tryd.prog Tryd.lays105_ren := {
  sizeBuilder := by kernel_rfl
  liesBuilder := by kernel_rfl
  t5 := Tryd.underlying5
  a5 := Tryd.isAgg5
  z5 := Tryd.sizeOf5
  v5 := Tryd.zeroValue5
  infoByte := by kernel_rfl
  cellsByte := by kernel_rfl
  sizeByte := by kernel_rfl
  neB5 := by decide }
open Go.RowKit Go.Lib in
/-- **strings.Repeat: count ≥ 0, the result within one allocation: count copies of s.** (LAID: no walk: one application.) -/
theorem Tryd.strings_Repeat (s : ByteArray) (c : Nat) (w : World) (hc : c ≤ 9223372036854775807) (hlen : s.size * c ≤ 140737488355328) :
    Calls Tryd.prog 9 #[.string s, .int .i64 c] w fun e w' => e = .returned (.string ⟨(Lib.repeatL s.data.toList c).toArray⟩) ∧ Below w.heap.size w w' := Any.strings_Repeat Tryd.lays105 Tryd.Builder_Extra_105 s c w hc hlen
end Go.Proofs
