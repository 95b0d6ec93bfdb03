/-
  The walks of 'strconv.FormatUint' at base 10 (10, 8): after the shelf's own FormatInt (Derived/Shelf/Strconv/Itoa3.lean).
-/
import Derived.Test.Qxb6628869aDoorShelf
import Derived.Lib.Walk
import Derived.Lib.ItoaMem
import Derived.WalkKit
import Derived.WalkSpells
import Derived.WalkLawsBesides
namespace Go.Proofs.Qxb6628869aDoor
open Go.RowKit Go.Sort Go.Lib

theorem below_putRow {w : World} (o : Obj) (dk : Array UInt8) (k : Nat) : Below w.heap.size w ((putRow (fun (b : UInt8) => Value.int .u8 (b.toNat : Int)) (w.alloc o) w.heap.size 0 dk).drewN k) := by
  obtain ⟨os', _, e⟩ := putRow_grow_new (fun (b : UInt8) => Value.int .u8 (b.toNat : Int)) w #[o] w.heap.size 0 dk (Nat.le_refl _)
  rw [alloc_eq_grow, e]
  exact ⟨rfl, rfl, rfl, by show w.heap.size ≤ (w.heap ++ os').size; simp, fun j hj => heap_grow_old w os' hj⟩

theorem holds_zero0 (w : World) (T : TypeId) (nd : Nat) (hs : nd ≤ 24) : Holds (fun (b : UInt8) => Value.int .u8 (b.toNat : Int)) (w.alloc (.cells zeros24 T)) w.heap.size 0 (Array.replicate nd (0 : UInt8)) := fun j hj => by
  have hj' : j < nd := by simpa using hj
  refine ⟨?_, World.frozen?_alloc_new _ _ _ _⟩
  rw [World.cell?_alloc_new, zeros24_at _ (by omega), getElem!_pos _ j hj]
  simp

set_option maxHeartbeats 1000000 in
set_option maxRecDepth 100000 in
theorem formatUint_in (u : Nat) (hu64 : u < 18446744073709551616) (w : World) (htab : Lib.TabIs Tryd.prog w Tryd.pow10Name .u64 Lib.pow10Tab) :
    Calls Tryd.prog 10 #[.int .u64 u, .int .i64 10] w fun e w' => e = .returned (.string ⟨(Lib.decDigits u).toArray⟩) ∧ Below w.heap.size w w' := by
  by_cases hs : u < 100
  · go_enter Tryd.func10, Tryd.ntmps10
    go_wp2_with fail
    refine (Tryd.internal_strconv_small u hs _).mono ?_
    rintro e w' ⟨rfl, rfl⟩
    go_wp2
    go_ret
    exact ⟨rfl, Below.refl _ _⟩
  · have hu1 : 1 ≤ u := by omega
    have hnd20 : Lib.nDigits u ≤ 20 := by have := Lib.numDigits_eq u hu1 hu64; split at this <;> omega
    have hb3 : Lib.nDigits u ≤ 24 := by omega
    have hal : Tryd.prog.arrayLen 45 = 24 := by kernel_rfl
    have hsl : ∀ W, (Instr.sliceAt 45 (.pointer (some ⟨w.heap.size, 0, none⟩)) none (some (.int .i64 (Lib.nDigits u : Int))) none).run Tryd.prog W = .ok (.slice (some ⟨w.heap.size, 0, none⟩) (Lib.nDigits u) 24) W := fun W => by
      rw [run_sliceAt_array_h W 45 ⟨w.heap.size, 0, none⟩ (by kernel_rfl) .i64 (Lib.nDigits u : Int) (by omega) (by rw [hal]; omega)]
      have hse : (sizeOf (Tryd.prog.elem 45)).run Tryd.prog W = .ok 1 W := by kernel_rfl
      rw [hse, hal]
      simp [Result.andThen, slicedAt, Addr.add]
    have hH0 := holds_zero0 w 45 (Lib.nDigits u) hb3
    have hfmt := Tryd.internal_strconv_formatBase10 w.heap.size 0 24 u (Array.replicate (Lib.nDigits u) 0) (w.alloc (.cells Lib.zeros24 45)) hH0 (by rw [Array.size_replicate]; exact Lib.lt_pow_nDigits u) hu64 (by rw [Array.size_replicate]; omega)
    rw [Array.size_replicate] at hfmt
    have HH0 := Lib.hid hH0
    have HFMT := Lib.hid hfmt
    have HTAB : Hid (Lib.TabIs Tryd.prog w Tryd.pow10Name .u64 Lib.pow10Tab) := htab
    clear htab hH0 hfmt hal
    go_enter Tryd.func10, Tryd.ntmps10
    go_wp2_with fail
    refine (Tryd.internal_strconv_numDigits u hu1 hu64 _ (Lib.tabIs_alloc HTAB.out _)).mono ?_
    rintro e w' ⟨rfl, hw⟩
    rw [hw]
    clear hw w'
    go_wp2_with fail
    refine HFMT.out.mono ?_
    rintro e w' ⟨rfl, k, v', dk, hw, hF⟩
    rw [hw]
    clear hw w'
    have hcv : (convert 34 9 (.slice (some ⟨w.heap.size, 0, none⟩) (Lib.nDigits u) 24)).run Tryd.prog ((putRow (fun (b : UInt8) => Value.int .u8 (b.toNat : Int)) (w.alloc (.cells Lib.zeros24 45)) w.heap.size 0 dk).drewN k) = .ok (.string ⟨(Lib.decDigits u).toArray⟩) ((putRow (fun (b : UInt8) => Value.int .u8 (b.toNat : Int)) (w.alloc (.cells Lib.zeros24 45)) w.heap.size 0 dk).drewN k) := by
      have h := run_convert_bytes_back (P := Tryd.prog) ((putRow (fun (b : UInt8) => Value.int .u8 (b.toNat : Int)) (w.alloc (.cells Lib.zeros24 45)) w.heap.size 0 dk).drewN k) 34 9 5 ⟨w.heap.size, 0, none⟩ 24 (Lib.decDigits u) Tryd.underlying34 Tryd.underlying5 Tryd.underlying9 (fun j hj => by
        rw [Lib.row_is_numeral hF j hj, Lib.add_plain, World.cell?_drewN]
        exact cell?_putRow (fun (b : UInt8) => Value.int .u8 (b.toNat : Int)) _ w.heap.size 0 _ dk HH0.out (by rw [hF.size, Array.size_replicate]) j (by rw [hF.size]; rw [Lib.decDigits_length] at hj; exact hj))
      rw [Lib.decDigits_length] at h
      exact h
    have HB := Lib.hid (below_putRow (w := w) (.cells Lib.zeros24 45) dk k)
    obtain ⟨W1, hW1⟩ : ∃ W1, W1 = (putRow (fun (b : UInt8) => Value.int .u8 (b.toNat : Int)) (w.alloc (.cells Lib.zeros24 45)) w.heap.size 0 dk).drewN k := ⟨_, rfl⟩
    rw [← hW1] at hcv HB ⊢
    clear hW1 hF HH0 HFMT
    go_wp2
    go_ret
    exact ⟨rfl, HB.out⟩

set_option maxHeartbeats 1000000 in
theorem formatUint (u : Nat) (hu64 : u < 18446744073709551616) (w : World) (htab : Lib.TabIs Tryd.prog w Tryd.pow10Name .u64 Lib.pow10Tab) :
    Calls Tryd.prog 8 #[.int .u64 u, .int .i64 10] w fun e w' => e = .returned (.string ⟨(Lib.decDigits u).toArray⟩) ∧ Below w.heap.size w w' := by
  have HTAB : Hid (Lib.TabIs Tryd.prog w Tryd.pow10Name .u64 Lib.pow10Tab) := htab
  clear htab
  go_enter Tryd.func8, Tryd.ntmps8
  go_wp2_with fail
  refine (formatUint_in u hu64 w HTAB.out).mono ?_
  rintro e w' ⟨rfl, hb⟩
  have HB := Lib.hid hb
  clear hb
  go_wp2
  go_ret
  exact ⟨rfl, HB.out⟩
end Go.Proofs.Qxb6628869aDoor
