/-
  The walk of the second law (4).
-/
import Derived.Test.Qxb6628906aLaw3
set_option linter.unusedVariables false
namespace Go.Proofs.Qxb6628906a
open Go.RowKit

set_option maxHeartbeats 1000000 in
set_option maxRecDepth 100000 in
theorem law4_walk (a : Option Addr) (n cap : Nat) (ss : List ByteArray) (i : Int) (w : World) (hn : n ≤ maxLen) (hr : StrRow w a n ss) :
    Calls Try.prog 4 #[.slice a n cap, .int .i64 i] w fun e w' => e = .returned (.bool true) ∧ Below w.heap.size w w' := by
  have HR : Hid (StrRow w a n ss) := hr
  have HB9 : Hid (Calls Try.prog 9 #[.slice a n cap, .int .i64 i] w fun e w' => RetOK n ss e ∧ w' = w) := bytes9 a n cap ss i w hn hr
  unfold maxLen at hn
  clear hr
  go_enter Try.func4, Try.ntmps4
  go_wp2_with fail
  refine HB9.out.mono ?_
  rintro e w' ⟨⟨r, rfl, hok⟩, hw⟩
  rw [hw]
  clear hw w'
  cases r with
  | false =>
    go_wp2
    go_ret
    exact ⟨rfl, Below.refl _ _⟩
  | true =>
  obtain ⟨_, hsz⟩ := hok rfl
  have HSZ : Hid (∀ j, j < n → (key ss j).size ≤ 1048576) := hsz
  clear hok hsz
  by_cases hn1 : 65536 < n
  · have t1 : decide ((65536 : Int) < (n : Int)) = true := by simp; omega
    go_wp2
    go_ret
    exact ⟨rfl, Below.refl _ _⟩
  have t1 : decide ((65536 : Int) < (n : Int)) = false := by simp; omega
  go_wp2
  go_loop [5, 6] (fun t i => ∃ (k z : Nat), k ≤ n ∧ z ≤ 1048576 ∧ t = .int .i64 (z : Int) ∧ i = .int .i64 (k : Int) ∧ Hid (tot ss k + 16 * k ≤ z)) (fun _ i => n - (intOf i).toNat)
  case atStart => exact ⟨0, 0, by omega, by omega, rfl, rfl, by show 0 + 16 * 0 ≤ _; omega⟩
  case round =>
  obtain ⟨k, z, hk, hz, rfl, rfl, HZ⟩ := hrel
  by_cases hlt : k < n
  · obtain ⟨b, off, ha, hb, hc⟩ := HR.out.2.resolve_left (by omega)
    subst ha
    obtain ⟨s, hs⟩ : ∃ s, s = key ss k := ⟨_, rfl⟩
    have hcell : w.cell? ⟨b, off + k, none⟩ = some (.string s) := by rw [hs]; exact hc k hlt
    have hss : s.size ≤ 1048576 := by rw [hs]; exact HSZ.out k hlt
    have HN : Hid (tot ss (k + 1) + 16 * (k + 1) ≤ z + (s.size + 16)) := by show _ ≤ _; rw [tot, ← hs]; have := HZ.out; omega
    clear hs hc
    by_cases hbig : 1048576 < z + (s.size + 16)
    · have t3 : decide ((1048576 : Int) < (z : Int) + ((s.size : Int) + 16)) = true := by simp; omega
      go_wp2
      go_ret
      exact ⟨rfl, Below.refl _ _⟩
    · have t3 : decide ((1048576 : Int) < (z : Int) + ((s.size : Int) + 16)) = false := by simp; omega
      go_wp2
      go_round
      case rel => exact ⟨k + 1, z + (s.size + 16), by omega, by omega, congrArg (Value.int .i64) (by omega), congrArg (Value.int .i64) (by omega), HN⟩
      case measure => simp [intOf]; omega
  have hkn : n = k := by omega
  subst hkn
  have HT : Hid (tot ss n ≤ 1048576) := by show _ ≤ _; have := HZ.out; omega
  clear hlt hk HZ
  by_cases hi0 : i < 0
  · go_wp2
    go_ret
    exact ⟨rfl, Below.refl _ _⟩
  by_cases hin : (n : Int) ≤ i
  · go_wp2
    go_ret
    exact ⟨rfl, Below.refl _ _⟩
  obtain ⟨m, rfl⟩ : ∃ m : Nat, i = (m : Int) := ⟨i.toNat, by omega⟩
  have hmn : m < n := by omega
  have t4 : decide ((m : Int) < 0) = false := by simp
  have t5 : decide ((n : Int) ≤ (m : Int)) = false := by simp; omega
  have t5n : decide (n ≤ m) = false := by simp; omega
  obtain ⟨b0, off, ha, hb0, hc⟩ := HR.out.2.resolve_left (by omega)
  subst ha
  obtain ⟨x, hx⟩ : ∃ x, x = key ss m := ⟨_, rfl⟩
  have HX : Hid (x = key ss m) := hx
  have hxs : x.size ≤ 1048576 := by rw [hx]; exact HSZ.out m hmn
  have hcell : w.cell? ⟨b0, off + m, none⟩ = some (.string x) := by rw [hx]; exact hc m hmn
  clear hx hc hi0 hin
  go_wp2_with fail
  refine (first_any (some ⟨b0, off, none⟩) n cap ss x w (by omega) HR.out).mono ?_
  rintro e w' ⟨⟨r0, rfl, hf0⟩, hw⟩
  rw [hw]
  clear hw w'
  have HF0 : Hid (FirstAt ss n x r0) := hf0
  have hr0a : -1 ≤ r0 := by rcases hf0 with ⟨h, _⟩ | ⟨k, h, _⟩ <;> omega
  have hr0b : r0 ≤ 65536 := by rcases hf0 with ⟨h, _⟩ | ⟨k, h, hk, _⟩ <;> omega
  clear hf0
  go_wp2_with fail
  refine (build_any (some ⟨b0, off, none⟩) n cap ss w (by omega) HT.out HSZ.out HR.out).mono ?_
  rintro e w1 ⟨⟨b, rfl, hbu⟩, hb1⟩
  have HBU : Hid (Built ss n w1 b) := hbu
  have B1 : Hid (Below w.heap.size w w1) := hb1
  clear hbu hb1
  go_wp2_with fail
  refine (built_id HBU.out (by omega) m hmn).mono ?_
  rintro e w2 ⟨rfl, m2, hw2⟩
  rw [← HX.out]
  have BU2 : Hid (Built ss n w2 b) := by rw [hw2]; exact HBU.out.below (below_drewN (Below.refl _ _) _)
  have B2 : Hid (Below w.heap.size w w2) := by rw [hw2]; exact below_drewN B1.out _
  have hcell2 : w2.cell? ⟨b0, off + m, none⟩ = some (.string x) := by rw [B2.out.cell (p := ⟨b0, off + m, none⟩) hb0]; exact hcell
  clear hw2 hcell HBU B1
  obtain ⟨cb, hcb⟩ : ∃ cb, cb = grownCap w2 x.size 0 5 := ⟨_, rfl⟩
  obtain ⟨wb, hwb⟩ : ∃ wb, wb = Lib.bytesWorld w2 5 x := ⟨_, rfl⟩
  have hcs : x.size ≤ cb := by rw [hcb]; exact grownCap_ge _ _ _ _
  have hcv : (convert 9 23 (.string x)).run Try.prog w2 = .ok (.slice (some ⟨w2.heap.size, 0, none⟩) x.size cb) wb := by
    rw [hcb, hwb]; exact Lib.run_convert_string_bytes w2 9 23 5 x Try.underlying9 Try.underlying23 Try.underlying5
  have BB : Hid (Below w2.heap.size w2 wb) := by rw [hwb]; exact bytes_below w2 x
  have RB : Hid (ByteRow wb (some ⟨w2.heap.size, 0, none⟩) x.size (ints x)) := by rw [hwb]; exact bytes_row w2 x
  have BUB : Hid (Built ss n wb b) := BU2.out.below BB.out
  have BWB : Hid (Below w.heap.size w wb) := B2.out.trans (BB.out.mono B2.out.size)
  have hxx : (x.toList != x.toList) = false := by simp
  clear hcb hwb
  go_wp2_with fail
  refine (built_index BUB.out (by omega) _ cb x hxs hcs RB.out).mono ?_
  rintro e w3 ⟨⟨r, held, rfl, hy, hno⟩, hb3⟩
  have B3 : Hid (Below w.heap.size w w3) := BWB.out.trans (hb3.mono BWB.out.size)
  have BU3 : Hid (Built ss n w3 b) := BUB.out.below hb3
  clear hb3 hcv
  cases held with
  | false =>
    exact absurd HX.out.symm ((hno rfl).2 m hmn)
  | true =>
    have hfr := hy rfl
    have hr : r0 = (r : Int) := HF0.out.unique hfr
    have hrk : r < n ∧ key ss r = x := by
      rcases hfr with ⟨h, _⟩ | ⟨k, h, hk, he, _⟩
      · omega
      · obtain rfl : r = k := by omega
        exact ⟨hk, he⟩
    have hrn := hrk.1
    have HRK : Hid (key ss r = x) := hrk.2
    have t6 : ((r : Int) != r0) = false := by simp; exact hr.symm
    clear hfr hr hrk hy hno
    go_wp2_with fail
    refine (built_id BU3.out (by omega) r hrn).mono ?_
    rintro e w4 ⟨rfl, m4, hw4⟩
    rw [HRK.out]
    have B4 : Hid (Below w.heap.size w w4) := by rw [hw4]; exact below_drewN B3.out _
    clear hw4
    go_wp2
    go_ret
    exact ⟨by first | rfl | simp, B4.out⟩
end Go.Proofs.Qxb6628906a
