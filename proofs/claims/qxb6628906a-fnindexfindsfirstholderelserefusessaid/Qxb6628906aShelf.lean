/-
  DERIVED: THE SHELF's CONTRACTS AT THIS DUMP, IN PLAIN WORDS (tools/lay-plain.mjs out of 'TryShelf.lean', which tools/lay-shelf.mjs wrote): THE SAME DECLARATIONS UNDER THE SAME NAMES: 'import', 'namespace', 'open', 'def', 'theorem' AND NOTHING ELSE: no command of the shelf's: FOR A HAND-IN. Each laying: the table of numbers ('.._ren') and one theorem, a field a fact of the dump's own or the kernel's comparison; each contract: ONE APPLICATION.
-/
import Derived.Ground.MnProg
import Derived.Shelf.Bin.LEUint32
import Derived.Shelf.Bin.LEUint64
import Derived.Shelf.Bin.ReadersZ
import Derived.Test.Qxb6628906aProg
namespace Go.Proofs
open Go.Shelf
def Try.laysBin30_ren : Go.Shelf.Ren := ⟨fun | 30 => 20 | n => n, fun | 25 => 49 | 22 => 23 | 29 => 40 | 0 => 0 | 5 => 5 | 45 => 33 | n => n, fun | n => n⟩
theorem Try.laysBin30 : Go.Proofs.LaysBin.n30 Try.prog Try.laysBin30_ren := {
  mixed := by kernel_rfl
  f30 := Try.func20.trans (congrArg some (by kernel_rfl))
  t0 := Try.underlying0
  a0 := Try.isAgg0
  z0 := Try.sizeOf0
  v0 := Try.zeroValue0
  i0 := by kernel_rfl
  t5 := Try.underlying5
  a5 := Try.isAgg5
  z5 := Try.sizeOf5
  v5 := Try.zeroValue5
  i5 := by kernel_rfl
  t22 := Try.underlying23
  a22 := Try.isAgg23
  z22 := Try.sizeOf23
  v22 := Try.zeroValue23
  i22 := by kernel_rfl
  t25 := Try.underlying49
  a25 := Try.isAgg49
  z25 := Try.sizeOf49
  v25 := Try.zeroValue49
  i25 := by kernel_rfl
  t29 := Try.underlying40
  a29 := Try.isAgg40
  z29 := Try.sizeOf40
  v29 := Try.zeroValue40
  i29 := by kernel_rfl
  t45 := Try.underlying33
  a45 := Try.isAgg33
  z45 := Try.sizeOf33
  v45 := Try.zeroValue33
  i45 := by kernel_rfl }
open Go.RowKit in
/-- binary.LittleEndian.Uint32: "Uint32 returns the uint32 representation of b[0:4].": THE NUMBER THAT THE FIRST 4 BYTES SPELL, the least byte first ('Lib.leNat'). Of what was there nothing has turned (the receiver, an empty struct, is laid in a new block without cells; the statement's order is drawn). (LAID: no walk: one application.) -/
theorem Try.binary_LE_Uint32 (g o n c : Nat) (b0 b1 b2 b3 : UInt8) (w : World) (hn : 4 ≤ n) (c0 : w.cell? ⟨g, o, none⟩ = some (.int .u8 b0.toNat)) (c1 : w.cell? ⟨g, o + 1, none⟩ = some (.int .u8 b1.toNat)) (c2 : w.cell? ⟨g, o + 2, none⟩ = some (.int .u8 b2.toNat)) (c3 : w.cell? ⟨g, o + 3, none⟩ = some (.int .u8 b3.toNat)) :
    Calls Try.prog 20 #[.agg #[], .slice (some ⟨g, o, none⟩) n c] w fun e w' => e = .returned (.int .u32 (Lib.leNat [b0, b1, b2, b3])) ∧ Below w.heap.size w w' := Any.binary_LE_Uint32 Try.laysBin30 g o n c b0 b1 b2 b3 w hn c0 c1 c2 c3
def Try.laysBin33_ren : Go.Shelf.Ren := ⟨fun | 33 => 19 | n => n, fun | 25 => 49 | 22 => 23 | 33 => 37 | 0 => 0 | 5 => 5 | 45 => 33 | n => n, fun | n => n⟩
theorem Try.laysBin33 : Go.Proofs.LaysBin.n33 Try.prog Try.laysBin33_ren := {
  mixed := by kernel_rfl
  f33 := Try.func19.trans (congrArg some (by kernel_rfl))
  t0 := Try.underlying0
  a0 := Try.isAgg0
  z0 := Try.sizeOf0
  v0 := Try.zeroValue0
  i0 := by kernel_rfl
  t5 := Try.underlying5
  a5 := Try.isAgg5
  z5 := Try.sizeOf5
  v5 := Try.zeroValue5
  i5 := by kernel_rfl
  t22 := Try.underlying23
  a22 := Try.isAgg23
  z22 := Try.sizeOf23
  v22 := Try.zeroValue23
  i22 := by kernel_rfl
  t25 := Try.underlying49
  a25 := Try.isAgg49
  z25 := Try.sizeOf49
  v25 := Try.zeroValue49
  i25 := by kernel_rfl
  t33 := Try.underlying37
  a33 := Try.isAgg37
  z33 := Try.sizeOf37
  v33 := Try.zeroValue37
  i33 := by kernel_rfl
  t45 := Try.underlying33
  a45 := Try.isAgg33
  z45 := Try.sizeOf33
  v45 := Try.zeroValue33
  i45 := by kernel_rfl }
open Go.RowKit in
/-- binary.LittleEndian.Uint64: "Uint64 returns the uint64 representation of b[0:8].": THE NUMBER THAT THE FIRST 8 BYTES SPELL, the least byte first ('Lib.leNat'). Of what was there nothing has turned (the receiver, an empty struct, is laid in a new block without cells; the statement's order is drawn). (LAID: no walk: one application.) -/
theorem Try.binary_LE_Uint64 (g o n c : Nat) (b0 b1 b2 b3 b4 b5 b6 b7 : UInt8) (w : World) (hn : 8 ≤ n) (c0 : w.cell? ⟨g, o, none⟩ = some (.int .u8 b0.toNat)) (c1 : w.cell? ⟨g, o + 1, none⟩ = some (.int .u8 b1.toNat)) (c2 : w.cell? ⟨g, o + 2, none⟩ = some (.int .u8 b2.toNat)) (c3 : w.cell? ⟨g, o + 3, none⟩ = some (.int .u8 b3.toNat)) (c4 : w.cell? ⟨g, o + 4, none⟩ = some (.int .u8 b4.toNat)) (c5 : w.cell? ⟨g, o + 5, none⟩ = some (.int .u8 b5.toNat)) (c6 : w.cell? ⟨g, o + 6, none⟩ = some (.int .u8 b6.toNat)) (c7 : w.cell? ⟨g, o + 7, none⟩ = some (.int .u8 b7.toNat)) :
    Calls Try.prog 19 #[.agg #[], .slice (some ⟨g, o, none⟩) n c] w fun e w' => e = .returned (.int .u64 (Lib.leNat [b0, b1, b2, b3, b4, b5, b6, b7])) ∧ Below w.heap.size w w' := Any.binary_LE_Uint64 Try.laysBin33 g o n c b0 b1 b2 b3 b4 b5 b6 b7 w hn c0 c1 c2 c3 c4 c5 c6 c7
open Go.RowKit in
/-- binary.LittleEndian.Uint32, ITS PREMISES 'open_ints'' CONCLUSION TO THE LETTER: a slice at WHATEVER address a, the numbers zs that its cells hold: THE NUMBER THAT THE FIRST 4 SPELL ('Lib.leZ'). (LAID: no walk: one application.) -/
theorem Try.binary_LE_Uint32_z (a : Addr) (n c : Nat) (zs : List Int) (w : World) (hn : 4 ≤ n) (hl : 4 ≤ zs.length) (hcell : ∀ i, i < zs.length → w.cell? (a.add i) = some (.int .u8 (zs.getD i 0))) (hw : ∀ z ∈ zs, (Lit.int .u8 z).wf = true) :
    Calls Try.prog 20 #[.agg #[], .slice (some a) n c] w fun e w' => e = .returned (.int .u32 (Lib.leZ (zs.take 4))) ∧ Below w.heap.size w w' := Any.binary_LE_Uint32_z Try.laysBin30 a n c zs w hn hl hcell hw
open Go.RowKit in
/-- binary.LittleEndian.Uint64, ITS PREMISES 'open_ints'' CONCLUSION TO THE LETTER: a slice at WHATEVER address a, the numbers zs that its cells hold: THE NUMBER THAT THE FIRST 8 SPELL ('Lib.leZ'). (LAID: no walk: one application.) -/
theorem Try.binary_LE_Uint64_z (a : Addr) (n c : Nat) (zs : List Int) (w : World) (hn : 8 ≤ n) (hl : 8 ≤ zs.length) (hcell : ∀ i, i < zs.length → w.cell? (a.add i) = some (.int .u8 (zs.getD i 0))) (hw : ∀ z ∈ zs, (Lit.int .u8 z).wf = true) :
    Calls Try.prog 19 #[.agg #[], .slice (some a) n c] w fun e w' => e = .returned (.int .u64 (Lib.leZ (zs.take 8))) ∧ Below w.heap.size w w' := Any.binary_LE_Uint64_z Try.laysBin33 a n c zs w hn hl hcell hw
end Go.Proofs
