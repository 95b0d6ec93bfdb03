/-
  The set in memory; the walks of 'ID' (10), 'bits' (16, 14), 'slot' (17, 13), the wrappers.
-/
import Derived.Test.Qxb6628906aHash
import Derived.Test.Qxb6628906aTab
import Derived.Laws.BytesArg
import Derived.Deep.LoopGhost
set_option linter.unusedVariables false
namespace Go.Proofs.Qxb6628906a
open Go.RowKit
open Go.WideShapes (add_plain)

abbrev u64s (F : List Nat) : Array Value := (F.map fun (x : Nat) => Value.int .u64 (x : Int)).toArray
abbrev i64s (E : List Nat) : Array Value := (E.map fun (x : Nat) => Value.int .i64 (x : Int)).toArray
abbrev u32s (tab : List Nat) : Array Value := (tab.map fun (x : Nat) => Value.int .u32 (x : Int)).toArray
/-- The set at block b: its filter, its text, its ends, its table. -/
structure SetAt (w : World) (b fb eb tb : Nat) (F : List Nat) (T : ByteArray) (E tab : List Nat) : Prop where
  hb : w.heap[b]? = some (.cells #[.slice (some ⟨fb, 0, none⟩) F.length F.length, .string T, .slice (some ⟨eb, 0, none⟩) E.length E.length, .slice (some ⟨tb, 0, none⟩) tab.length tab.length] 45 (0, 0))
  hf : w.heap[fb]? = some (.cells (u64s F) 37 (0, 0))
  he : w.heap[eb]? = some (.cells (i64s E) 3 (0, 0))
  ht : w.heap[tb]? = some (.cells (u32s tab) 40 (0, 0))

section
variable {w : World} {b fb eb tb : Nat} {F : List Nat} {T : ByteArray} {E tab : List Nat}
theorem SetAt.c0 (h : SetAt w b fb eb tb F T E tab) : w.cell? ⟨b, 0, none⟩ = some (.slice (some ⟨fb, 0, none⟩) F.length F.length) := by rw [cell_of_row w b 0 _ _ _ h.hb]; rfl
theorem SetAt.c1 (h : SetAt w b fb eb tb F T E tab) : w.cell? ⟨b, 1, none⟩ = some (.string T) := by rw [cell_of_row w b 1 _ _ _ h.hb]; rfl
theorem SetAt.c2 (h : SetAt w b fb eb tb F T E tab) : w.cell? ⟨b, 2, none⟩ = some (.slice (some ⟨eb, 0, none⟩) E.length E.length) := by rw [cell_of_row w b 2 _ _ _ h.hb]; rfl
theorem SetAt.c3 (h : SetAt w b fb eb tb F T E tab) : w.cell? ⟨b, 3, none⟩ = some (.slice (some ⟨tb, 0, none⟩) tab.length tab.length) := by rw [cell_of_row w b 3 _ _ _ h.hb]; rfl
theorem SetAt.fc (h : SetAt w b fb eb tb F T E tab) (j : Nat) (hj : j < F.length) : w.cell? ⟨fb, j, none⟩ = some (.int .u64 ((at' F j : Nat) : Int)) := by
  rw [cell_of_row w fb j _ _ _ h.hf]; simp [at', List.getD, hj]
theorem SetAt.ec (h : SetAt w b fb eb tb F T E tab) (j : Nat) (hj : j < E.length) : w.cell? ⟨eb, j, none⟩ = some (.int .i64 ((at' E j : Nat) : Int)) := by
  rw [cell_of_row w eb j _ _ _ h.he]; simp [at', List.getD, hj]
theorem SetAt.tc (h : SetAt w b fb eb tb F T E tab) (j : Nat) (hj : j < tab.length) : w.cell? ⟨tb, j, none⟩ = some (.int .u32 ((at' tab j : Nat) : Int)) := by
  rw [cell_of_row w tb j _ _ _ h.ht]; simp [at', List.getD, hj]
theorem SetAt.below (h : SetAt w b fb eb tb F T E tab) {w' : World} (hb : Below w.heap.size w w') : SetAt w' b fb eb tb F T E tab :=
  ⟨(hb.block _ (Array.getElem?_eq_some_iff.1 h.hb).1).trans h.hb, (hb.block _ (Array.getElem?_eq_some_iff.1 h.hf).1).trans h.hf, (hb.block _ (Array.getElem?_eq_some_iff.1 h.he).1).trans h.he, (hb.block _ (Array.getElem?_eq_some_iff.1 h.ht).1).trans h.ht⟩
theorem SetAt.drewN (h : SetAt w b fb eb tb F T E tab) (n : Nat) : SetAt (w.drewN n) b fb eb tb F T E tab := h.below (below_drewN (Below.refl _ _) n)
end

/-- The text and its ends spell the ids. -/
structure Spells (ss : List ByteArray) (T : ByteArray) (E : List Nat) : Prop where
  len : E.length = ss.length
  le : ∀ i, i < E.length → at' E i ≤ T.size
  lo : ∀ i, i < E.length → 0 < i → at' E (i - 1) ≤ at' E i
  cut : ∀ i, i < E.length → T.extract (if i = 0 then 0 else at' E (i - 1)) (at' E i) = key ss i
  small : T.size ≤ 1048576

set_option maxHeartbeats 400000 in
theorem id_any (b fb eb tb : Nat) (F : List Nat) (T : ByteArray) (E tab : List Nat) (ss : List ByteArray) (w : World) (i : Nat) (hi : i < E.length) (hn : E.length ≤ 65536) (hs : SetAt w b fb eb tb F T E tab) (ht : Spells ss T E) :
    Calls Try.prog 10 #[.pointer (some ⟨b, 0, none⟩), .int .i64 (i : Int)] w fun e w' => e = .returned (.string (key ss i)) ∧ ∃ m, w' = w.drewN m := by
  have c1 := hs.c1
  have c2 := hs.c2
  have e1 := hs.ec i hi
  have hle := ht.le i hi
  have hsm := ht.small
  have HC : Hid (T.extract (if i = 0 then 0 else at' E (i - 1)) (at' E i) = key ss i) := ht.cut i hi
  obtain ⟨N, hN⟩ : ∃ N, N = E.length := ⟨_, rfl⟩
  rw [← hN] at c2 hi hn
  obtain ⟨z, hz⟩ : ∃ z, z = at' E i := ⟨_, rfl⟩
  rw [← hz] at e1 hle HC
  by_cases h0 : i = 0
  · subst h0
    have HC0 : Hid (T.extract 0 z = key ss 0) := HC.out
    clear hs ht hN hz HC
    go_enter Try.func10, Try.ntmps10
    go_wp2
    go_quiet (fail)
    go_wp2
    go_ret
    exact ⟨by rw [← HC0.out]; rfl, _, rfl⟩
  · have e0 := hs.ec (i - 1) (by omega)
    have hlo := ht.lo i (by omega) (by omega)
    rw [← hz] at hlo
    obtain ⟨y, hy⟩ : ∃ y, y = at' E (i - 1) := ⟨_, rfl⟩
    rw [← hy] at e0 hlo HC
    rw [if_neg h0] at HC
    have hd0 : decide ((0 : Int) < (i : Int)) = true := by simp; omega
    clear hs ht hN hz hy
    go_enter Try.func10, Try.ntmps10
    go_wp2
    go_quiet (fail)
    go_wp2
    go_ret
    exact ⟨by rw [← HC.out]; rfl, _, rfl⟩

/-- The bytes of a string, as numbers. -/
def ints (x : ByteArray) : List Int := x.data.toList.map fun b => (b.toNat : Int)
theorem ints_length (x : ByteArray) : (ints x).length = x.size := by simp [ints]
theorem ints_wf (x : ByteArray) : ∀ z ∈ ints x, (Lit.int .u8 z).wf = true := fun z hz => by
  obtain ⟨b, _, rfl⟩ := List.mem_map.1 hz
  have := b.toNat_lt
  simp [Lit.wf, IntKind.min, IntKind.max, IntKind.signed, IntKind.bits]; omega
theorem strOfNums_ints (x : ByteArray) : strOfNums (ints x) = x := by
  obtain ⟨⟨l⟩⟩ := x
  simp only [strOfNums, ints, List.map_map]
  congr 2
  refine (List.map_congr_left fun b _ => ?_).trans (List.map_id l)
  simp
theorem ints_strOfNums (zs : List Int) (h : ∀ z ∈ zs, (Lit.int .u8 z).wf = true) : ints (strOfNums zs) = zs := by
  unfold ints
  rw [strOfNums_data, List.map_map]
  refine (List.map_congr_left fun z hz => ?_).trans (List.map_id zs)
  have := bounds_u8 (h z hz)
  simp only [Function.comp_apply, UInt8.toNat_ofNat', id]
  omega
/-- The hash of a string. -/
def H (x : ByteArray) : Nat := (hashZ (ints x)).toNat
theorem H_lt (x : ByteArray) : H x < 18446744073709551616 := by have := hash_range (ints x); unfold H; omega
theorem H_cast (x : ByteArray) : ((H x : Nat) : Int) = hashZ (ints x) := by have := hash_range (ints x); unfold H; omega

theorem hash_key (a : Option Addr) (cap : Nat) (x : ByteArray) (w : World) (hn : x.size ≤ 1048576) (hcap : x.size ≤ cap) (hr : ByteRow w a x.size (ints x)) :
    Calls Try.prog 15 #[.slice a x.size cap] w fun e w' => e = .returned (.int .u64 ((H x : Nat) : Int)) ∧ Below w.heap.size w w' := by
  rw [H_cast]; exact hash_any a x.size cap (ints x) w hn hcap hr (ints_wf x)

theorem conv_empty (a : Option Addr) (c : Nat) (w : World) : (convert 23 9 (.slice a 0 c)).run Try.prog w = .ok (.string ByteArray.empty) w := by
  rw [run_convert_bytes_string w 23 9 5 a 0 c Try.underlying23 Try.underlying5 Try.underlying9]
  cases a with
  | none => simp [Conv.bytesToString]
  | some a =>
    have hl : (loadCells a 0).run Try.prog w = .ok #[] w := run_loadCells_list (P := Try.prog) w a [] (fun j v h => by simp at h)
    simp [Conv.bytesToString, hl, Result.andThen]
theorem conv_key {a : Option Addr} {x : ByteArray} {w : World} (hr : ByteRow w a x.size (ints x)) (c : Nat) : (convert 23 9 (.slice a x.size c)).run Try.prog w = .ok (.string x) w := by
  rcases hr.2 with h0 | ⟨g, off, rfl, _, hc⟩
  · rw [h0, conv_empty]
    obtain ⟨⟨l⟩⟩ := x
    have : l = [] := List.eq_nil_of_length_eq_zero h0
    subst this; rfl
  · rw [run_convert_bytes_arg w 23 5 Try.underlying23 Try.underlying5 g off x.size c (ints x) hr.1 hc 9 Try.underlying9, strOfNums_ints]

/-- The two bits that the hash h names in a filter of fw words; where the search begins in a table of ts slots. -/
def bitA (fw h : Nat) : Nat := h &&& (fw * 64 - 1)
def bitB (fw h : Nat) : Nat := (h / 4294967296) &&& (fw * 64 - 1)
theorem bitA_lt {fw h : Nat} (hf : 1 ≤ fw) : bitA fw h < 64 * fw := by
  have : h &&& (fw * 64 - 1) ≤ fw * 64 - 1 := Nat.and_le_right
  unfold bitA; omega
theorem bitB_lt {fw h : Nat} (hf : 1 ≤ fw) : bitB fw h < 64 * fw := by
  have : (h / 4294967296) &&& (fw * 64 - 1) ≤ fw * 64 - 1 := Nat.and_le_right
  unfold bitB; omega

set_option maxHeartbeats 400000 in
theorem bits_any (b fb eb tb : Nat) (F : List Nat) (T : ByteArray) (E tab : List Nat) (h : Nat) (w : World) (hh : h < 18446744073709551616) (hf1 : 1 ≤ F.length) (hf2 : F.length ≤ 1048576) (hs : SetAt w b fb eb tb F T E tab) :
    Calls Try.prog 16 #[.pointer (some ⟨b, 0, none⟩), .int .u64 (h : Int)] w fun e w' => e = .returned (.tuple #[.int .u64 ((bitA F.length h : Nat) : Int), .int .u64 ((bitB F.length h : Nat) : Int)]) ∧ w' = w := by
  have c0 := hs.c0
  have e1 : bits .and .u64 (h : Int) ((F.length : Int) * 64 - 1) = ((bitA F.length h : Nat) : Int) := by
    rw [show ((F.length : Int) * 64 - 1) = ((F.length * 64 - 1 : Nat) : Int) by omega]; exact bits_and_u64_nat h _ hh (by omega)
  have e2 : bits .and .u64 ((h : Int) / 4294967296) ((F.length : Int) * 64 - 1) = ((bitB F.length h : Nat) : Int) := by
    rw [show ((F.length : Int) * 64 - 1) = ((F.length * 64 - 1 : Nat) : Int) by omega, show ((h : Int) / 4294967296) = ((h / 4294967296 : Nat) : Int) by omega]; exact bits_and_u64_nat _ _ (by omega) (by omega)
  obtain ⟨fw, hfw⟩ : ∃ fw, fw = F.length := ⟨_, rfl⟩
  rw [← hfw] at c0 e1 e2 hf1 hf2 ⊢
  clear hs hfw
  go_enter Try.func16, Try.ntmps16
  go_wp2
  go_ret2
  exact ⟨rfl, rfl⟩

theorem bits_and_i64_nat (a b : Nat) (ha : a < 9223372036854775808) (hb : b < 9223372036854775808) : bits .and .i64 (a : Int) (b : Int) = ((a &&& b : Nat) : Int) := by
  have hx : a &&& b < 2 ^ 63 := Nat.and_lt_two_pow _ (by omega)
  have h1 : (BitVec.ofInt 64 (a : Int)).toNat = a := by
    rw [BitVec.ofInt_natCast, BitVec.toNat_ofNat]; exact Nat.mod_eq_of_lt (by omega)
  have h2 : (BitVec.ofInt 64 (b : Int)).toNat = b := by
    rw [BitVec.ofInt_natCast, BitVec.toNat_ofNat]; exact Nat.mod_eq_of_lt (by omega)
  show IntKind.i64.wrap ((BitVec.ofInt 64 (a : Int) &&& BitVec.ofInt 64 (b : Int)).toNat : Int) = _
  rw [BitVec.toNat_and, h1, h2, IntKind.wrap_i64]
  omega
theorem and_mask (a e : Nat) : a &&& (2 ^ e - 1) = a % 2 ^ e := Nat.and_two_pow_sub_one_eq_mod a e
end Go.Proofs.Qxb6628906a
