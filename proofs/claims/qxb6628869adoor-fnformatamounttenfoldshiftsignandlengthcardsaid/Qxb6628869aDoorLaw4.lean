/-
  The walk of the second law (4).
-/
import Derived.Test.Qxb6628869aDoorFmt
import Derived.Test.Qxb6628869aDoorTen
import Derived.Lib.AppendIntMem
set_option linter.unusedVariables false
namespace Go.Proofs.Qxb6628869aDoor
open Go.RowKit

theorem bytes7 (code : ByteArray) (m a : Int) (w : World) :
    Calls Tryd.prog 7 #[.string code, .int .i64 m, .int .i64 a] w fun e w' => (∃ r, e = .returned (.bool r) ∧ (r = true → code.size ≤ 1048576)) ∧ w' = w := by
  go_enter Tryd.func7, Tryd.ntmps7
  go_wp2
  all_goals (go_ret; first | exact ⟨⟨false, rfl, fun h => by cases h⟩, rfl⟩ | exact ⟨⟨true, rfl, fun h => by omega⟩, rfl⟩)

set_option maxRecDepth 100000 in
theorem law4_out (code : ByteArray) (m a : Int) (w : World) (hm : m < 0 ∨ 65536 < m) :
    Calls Tryd.prog 4 #[.string code, .int .i64 m, .int .i64 a] w fun e w' => e = .returned (.bool true) ∧ Below w.heap.size w w' := by
  go_enter Tryd.func4, Tryd.ntmps4
  go_wp2_with fail
  refine (bytes7 code m a w).mono ?_
  rintro e w' ⟨⟨r, rfl, hr⟩, hw⟩
  rw [hw]
  clear hw w'
  cases r with
  | false =>
    go_wp2
    go_ret
    exact ⟨rfl, Below.refl _ _⟩
  | true =>
    have hc := hr rfl
    clear hr
    have d0 : decide ((1048576 : Int) < (code.size : Int)) = false := by simp; omega
    rcases hm with hm | hm
    · go_wp2
      go_ret
      exact ⟨rfl, Below.refl _ _⟩
    · go_wp2
      go_ret
      exact ⟨rfl, Below.refl _ _⟩


set_option maxHeartbeats 1000000 in
set_option maxRecDepth 100000 in
theorem law4_neg (code : ByteArray) (mu u : Nat) (w : World) (hmu : mu ≤ 65536) (hu1 : 1 ≤ u) (hu : u ≤ 9223372036854775808) (htab : Lib.TabIs Tryd.prog w Tryd.pow10Name .u64 Lib.pow10Tab) :
    Calls Tryd.prog 4 #[.string code, .int .i64 (mu : Int), .int .i64 (-(u : Int))] w fun e w' => e = .returned (.bool true) ∧ Below w.heap.size w w' := by
  have HTAB : Hid (Lib.TabIs Tryd.prog w Tryd.pow10Name .u64 Lib.pow10Tab) := htab
  clear htab
  go_enter Tryd.func4, Tryd.ntmps4
  go_wp2_with fail
  refine (bytes7 code _ _ w).mono ?_
  rintro e w' ⟨⟨r, rfl, hr⟩, hw⟩
  rw [hw]
  clear hw w'
  cases r with
  | false =>
    go_wp2
    go_ret
    exact ⟨rfl, Below.refl _ _⟩
  | true =>
  have hc := hr rfl
  clear hr
  have d0 : decide ((1048576 : Int) < (code.size : Int)) = false := by simp; omega
  have d0n : decide (1048576 < code.size) = false := by simp; omega
  have d1 : decide ((mu : Int) < 0) = false := by simp
  have d2 : decide ((65536 : Int) < (mu : Int)) = false := by simp; omega
  have d2n : decide (65536 < mu) = false := by simp; omega
  go_wp2_with fail
  refine (fmt_neg code mu u _ (by omega) (by omega) hu (Lib.tabIs_alloc HTAB.out _)).mono ?_
  rintro e w1 ⟨rfl, hb⟩
  have HB : Hid (Below w.heap.size w w1) := ((Below.refl _ _).alloc (Nat.le_refl _) _).trans (hb.mono (by simp))
  have h1 : w1.heap[w.heap.size]? = some (.cells #[.string code, .int .i64 mu] 24 (0, 0)) := by rw [hb.block _ (by simp)]; show (w.heap.push _)[w.heap.size]? = _; simp
  have c0 : w1.cell? ⟨w.heap.size, 0, none⟩ = some (.string code) := by rw [cell_of_row w1 w.heap.size 0 _ _ _ h1]; rfl
  have c1 : w1.cell? ⟨w.heap.size, 1, none⟩ = some (.int .i64 mu) := by rw [cell_of_row w1 w.heap.size 1 _ _ _ h1]; rfl
  have H1 : Hid (w1.heap[w.heap.size]? = some (.cells #[.string code, .int .i64 mu] 24 (0, 0))) := h1
  clear h1 hb
  obtain ⟨S, hS⟩ : ∃ S, S = str (textL true mu u) := ⟨_, rfl⟩
  obtain ⟨q, hq⟩ : ∃ q, q = Lib.nDigits u := ⟨_, rfl⟩
  have HQ : Hid (q = Lib.nDigits u) := hq
  have HSS : Hid (S = str (textL true mu u)) := hS
  have HSL : Hid (S.size = 1 + (if q < mu + 1 then mu + 1 else q) + (if 0 < mu then 1 else 0)) := by
    show S.size = _; rw [hS, hq]; exact str_len true mu u
  have hqb : q ≤ 20 := by rw [hq]; exact Lib.nDigits_le20 u (by omega)
  have hq1 : 1 ≤ q := by rw [hq]; exact Lib.nDigits_pos u
  rw [show str (textL true mu u) = S from HSS.out.symm]
  clear hS hq
  go_wp2
  have hm1 : (-(-(u : Int) + 1) + 1) = (u : Int) := by omega
  try rw [hm1]
  have TAB1 : Hid (Lib.TabIs Tryd.prog w1 Tryd.pow10Name .u64 Lib.pow10Tab) := Lib.tabBelow_of_tabIs HTAB.out _ HB.out
  go_loop [9, 10] (fun m x => ∃ y c : Nat, y ≤ u ∧ 1 ≤ c ∧ c ≤ q ∧ m = .int .u64 (y : Int) ∧ x = .int .i64 (c : Int) ∧ Hid (c + Lib.nDigits y = q + 1)) (fun m _ => (intOf m).toNat)
  case atStart => exact ⟨u, 1, Nat.le_refl _, Nat.le_refl _, hq1, rfl, rfl, by show 1 + Lib.nDigits u = q + 1; rw [HQ.out]; omega⟩
  case round =>
    obtain ⟨y, c, hy, hc1, hcq, rfl, rfl, HY⟩ := hrel
    by_cases hlt : y < 10
    · have hcq2 : c = q := by have := HY.out; rw [Lib.nDigits_small hlt] at this; omega
      rw [hcq2]
      clear hcq2 hcq HY hc1 c
      by_cases hq2 : q < mu + 1
      · by_cases hm : 0 < mu
        · have hL : S.size = 1 + (mu + 1) + 1 := by have := HSL.out; rw [if_pos hq2, if_pos hm] at this; exact this
          have hLb : S.size ≤ 70000 := by omega
          have hqd : decide ((q : Int) < (mu : Int) + 1) = true := by simp; omega
          have hmd : decide ((0 : Int) < (mu : Int)) = true := by simp; omega
          have hmz : ((mu : Int) == 0) = false := by simp; omega
          have HL : Hid (S.size = 1 + (mu + 1) + 1) := hL
          have hne : ((S.size : Int) != ((((mu : Int) + 1) + 1) + 1)) = false := by simp; omega
          clear hL
          by_cases umin : u = 9223372036854775808
          · have hneq : (-(u : Int) != -9223372036854775808) = false := by simp; omega
            go_wp2
            go_ret
            exact ⟨rfl, HB.out⟩
          · have hneq : (-(u : Int) != -9223372036854775808) = true := by simp; omega
            go_wp2_with fail
            refine (fmt_pos code mu u _ (by omega) (by omega) TAB1.out).mono ?_
            rintro e w2 ⟨rfl, hb⟩
            have HB2 : Hid (Below w.heap.size w w2) := HB.out.trans (hb.mono HB.out.size)
            have TAB2 : Hid (Lib.TabIs Tryd.prog w2 Tryd.pow10Name .u64 Lib.pow10Tab) := Lib.tabBelow_of_tabIs HTAB.out _ HB2.out
            obtain ⟨X, hX⟩ : ∃ X, X = str (textL false mu u) := ⟨_, rfl⟩
            have hSX : (⟨#[45]⟩ : ByteArray) ++ X = S := by rw [hX, HSS.out]; exact (str_neg mu u).symm
            have hXs : X.size ≤ 70000 := by have h := congrArg ByteArray.size hSX; rw [ByteArray.size_append] at h; omega
            rw [← hX]
            clear hb hX
            by_cases hr : u ≤ 922337203685477580
            · go_wp2_with fail
              rw [show (-(u : Int) * 10) = -((u * 10 : Nat) : Int) by omega, show ((mu : Int) + 1) = ((mu + 1 : Nat) : Int) by omega]
              refine (fmt_neg code (mu + 1) (u * 10) _ (by omega) (by omega) (by omega) (Lib.tabIs_alloc TAB2.out _)).mono ?_
              rintro e w3 ⟨rfl, hb⟩
              have HB3 : Hid (Below w.heap.size w w3) := (HB2.out.alloc HB2.out.size _).trans (hb.mono (by have := HB2.out.size; simp; omega))
              rw [show str (textL true (mu + 1) (u * 10)) = S ++ (⟨#[48]⟩ : ByteArray) from by rw [HSS.out]; exact str_ten true mu u hm]
              clear hb
              go_wp2
              go_ret
              exact ⟨by simp, HB3.out⟩
            · go_wp2
              go_ret
              exact ⟨rfl, HB2.out⟩
        · exfalso; omega
      · by_cases hm : 0 < mu
        · have hL : S.size = 1 + q + 1 := by have := HSL.out; rw [if_neg hq2, if_pos hm] at this; exact this
          have hLb : S.size ≤ 70000 := by omega
          have hqd : decide ((q : Int) < (mu : Int) + 1) = false := by simp; omega
          have hmd : decide ((0 : Int) < (mu : Int)) = true := by simp; omega
          have hmz : ((mu : Int) == 0) = false := by simp; omega
          have HL : Hid (S.size = 1 + q + 1) := hL
          have hne : ((S.size : Int) != (((q : Int) + 1) + 1)) = false := by simp; omega
          clear hL
          by_cases umin : u = 9223372036854775808
          · have hneq : (-(u : Int) != -9223372036854775808) = false := by simp; omega
            go_wp2
            go_ret
            exact ⟨rfl, HB.out⟩
          · have hneq : (-(u : Int) != -9223372036854775808) = true := by simp; omega
            go_wp2_with fail
            refine (fmt_pos code mu u _ (by omega) (by omega) TAB1.out).mono ?_
            rintro e w2 ⟨rfl, hb⟩
            have HB2 : Hid (Below w.heap.size w w2) := HB.out.trans (hb.mono HB.out.size)
            have TAB2 : Hid (Lib.TabIs Tryd.prog w2 Tryd.pow10Name .u64 Lib.pow10Tab) := Lib.tabBelow_of_tabIs HTAB.out _ HB2.out
            obtain ⟨X, hX⟩ : ∃ X, X = str (textL false mu u) := ⟨_, rfl⟩
            have hSX : (⟨#[45]⟩ : ByteArray) ++ X = S := by rw [hX, HSS.out]; exact (str_neg mu u).symm
            have hXs : X.size ≤ 70000 := by have h := congrArg ByteArray.size hSX; rw [ByteArray.size_append] at h; omega
            rw [← hX]
            clear hb hX
            by_cases hr : u ≤ 922337203685477580
            · go_wp2_with fail
              rw [show (-(u : Int) * 10) = -((u * 10 : Nat) : Int) by omega, show ((mu : Int) + 1) = ((mu + 1 : Nat) : Int) by omega]
              refine (fmt_neg code (mu + 1) (u * 10) _ (by omega) (by omega) (by omega) (Lib.tabIs_alloc TAB2.out _)).mono ?_
              rintro e w3 ⟨rfl, hb⟩
              have HB3 : Hid (Below w.heap.size w w3) := (HB2.out.alloc HB2.out.size _).trans (hb.mono (by have := HB2.out.size; simp; omega))
              rw [show str (textL true (mu + 1) (u * 10)) = S ++ (⟨#[48]⟩ : ByteArray) from by rw [HSS.out]; exact str_ten true mu u hm]
              clear hb
              go_wp2
              go_ret
              exact ⟨by simp, HB3.out⟩
            · go_wp2
              go_ret
              exact ⟨rfl, HB2.out⟩
        · have hL : S.size = 1 + q + 0 := by have := HSL.out; rw [if_neg hq2, if_neg hm] at this; exact this
          have hLb : S.size ≤ 70000 := by omega
          have hqd : decide ((q : Int) < (mu : Int) + 1) = false := by simp; omega
          have hmd : decide ((0 : Int) < (mu : Int)) = false := by simp; omega
          have hmz : ((mu : Int) == 0) = true := by simp; omega
          have HL : Hid (S.size = 1 + q + 0) := hL
          have hne : ((S.size : Int) != ((q : Int) + 1)) = false := by simp; omega
          clear hL
          by_cases umin : u = 9223372036854775808
          · have hneq : (-(u : Int) != -9223372036854775808) = false := by simp; omega
            go_wp2
            go_ret
            exact ⟨rfl, HB.out⟩
          · have hneq : (-(u : Int) != -9223372036854775808) = true := by simp; omega
            go_wp2_with fail
            refine (fmt_pos code mu u _ (by omega) (by omega) TAB1.out).mono ?_
            rintro e w2 ⟨rfl, hb⟩
            have HB2 : Hid (Below w.heap.size w w2) := HB.out.trans (hb.mono HB.out.size)
            have TAB2 : Hid (Lib.TabIs Tryd.prog w2 Tryd.pow10Name .u64 Lib.pow10Tab) := Lib.tabBelow_of_tabIs HTAB.out _ HB2.out
            obtain ⟨X, hX⟩ : ∃ X, X = str (textL false mu u) := ⟨_, rfl⟩
            have hSX : (⟨#[45]⟩ : ByteArray) ++ X = S := by rw [hX, HSS.out]; exact (str_neg mu u).symm
            have hXs : X.size ≤ 70000 := by have h := congrArg ByteArray.size hSX; rw [ByteArray.size_append] at h; omega
            rw [← hX]
            clear hb hX
            by_cases hr : u ≤ 922337203685477580
            · go_wp2_with fail
              rw [show (-(u : Int) * 10) = -((u * 10 : Nat) : Int) by omega, show ((mu : Int) + 1) = ((mu + 1 : Nat) : Int) by omega]
              refine (fmt_neg code (mu + 1) (u * 10) _ (by omega) (by omega) (by omega) (Lib.tabIs_alloc TAB2.out _)).mono ?_
              rintro e w3 ⟨rfl, hb⟩
              have HB3 : Hid (Below w.heap.size w w3) := (HB2.out.alloc HB2.out.size _).trans (hb.mono (by have := HB2.out.size; simp; omega))
              rw [show str (textL true (mu + 1) (u * 10)) = S ++ (⟨#[46, 48]⟩ : ByteArray) from by rw [HSS.out]; exact str_ten0 true mu u hm]
              clear hb
              go_wp2
              go_ret
              exact ⟨by simp, HB3.out⟩
            · go_wp2
              go_ret
              exact ⟨rfl, HB2.out⟩
    · have HN : Hid (c + 1 + Lib.nDigits (y / 10) = q + 1) := by show c + 1 + Lib.nDigits (y / 10) = q + 1; have := HY.out; rw [Lib.nDigits_big hlt] at this; omega
      have hcb : c + 1 ≤ q := by have := HN.out; have := Lib.nDigits_pos (y / 10); omega
      go_wp2
      go_round
      case rel => exact ⟨y / 10, c + 1, by omega, by omega, hcb, by first | rfl | (refine congrArg (Value.int .u64) ?_; omega), by first | rfl | (refine congrArg (Value.int .i64) ?_; omega), HN⟩
      case measure => simp only [intOf]; omega

set_option maxHeartbeats 1000000 in
set_option maxRecDepth 100000 in
theorem law4_pos (code : ByteArray) (mu u : Nat) (w : World) (hmu : mu ≤ 65536) (hu : u ≤ 9223372036854775807) (htab : Lib.TabIs Tryd.prog w Tryd.pow10Name .u64 Lib.pow10Tab) :
    Calls Tryd.prog 4 #[.string code, .int .i64 (mu : Int), .int .i64 (u : Int)] w fun e w' => e = .returned (.bool true) ∧ Below w.heap.size w w' := by
  have HTAB : Hid (Lib.TabIs Tryd.prog w Tryd.pow10Name .u64 Lib.pow10Tab) := htab
  clear htab
  go_enter Tryd.func4, Tryd.ntmps4
  go_wp2_with fail
  refine (bytes7 code _ _ w).mono ?_
  rintro e w' ⟨⟨r, rfl, hr⟩, hw⟩
  rw [hw]
  clear hw w'
  cases r with
  | false =>
    go_wp2
    go_ret
    exact ⟨rfl, Below.refl _ _⟩
  | true =>
  have hc := hr rfl
  clear hr
  have d0 : decide ((1048576 : Int) < (code.size : Int)) = false := by simp; omega
  have d0n : decide (1048576 < code.size) = false := by simp; omega
  have d1 : decide ((mu : Int) < 0) = false := by simp
  have d2 : decide ((65536 : Int) < (mu : Int)) = false := by simp; omega
  have d2n : decide (65536 < mu) = false := by simp; omega
  go_wp2_with fail
  refine (fmt_pos code mu u _ (by omega) hu (Lib.tabIs_alloc HTAB.out _)).mono ?_
  rintro e w1 ⟨rfl, hb⟩
  have HB : Hid (Below w.heap.size w w1) := ((Below.refl _ _).alloc (Nat.le_refl _) _).trans (hb.mono (by simp))
  have h1 : w1.heap[w.heap.size]? = some (.cells #[.string code, .int .i64 mu] 24 (0, 0)) := by rw [hb.block _ (by simp)]; show (w.heap.push _)[w.heap.size]? = _; simp
  have c0 : w1.cell? ⟨w.heap.size, 0, none⟩ = some (.string code) := by rw [cell_of_row w1 w.heap.size 0 _ _ _ h1]; rfl
  have c1 : w1.cell? ⟨w.heap.size, 1, none⟩ = some (.int .i64 mu) := by rw [cell_of_row w1 w.heap.size 1 _ _ _ h1]; rfl
  have H1 : Hid (w1.heap[w.heap.size]? = some (.cells #[.string code, .int .i64 mu] 24 (0, 0))) := h1
  clear h1 hb
  obtain ⟨S, hS⟩ : ∃ S, S = str (textL false mu u) := ⟨_, rfl⟩
  obtain ⟨q, hq⟩ : ∃ q, q = Lib.nDigits u := ⟨_, rfl⟩
  have HQ : Hid (q = Lib.nDigits u) := hq
  have HSS : Hid (S = str (textL false mu u)) := hS
  have HSL : Hid (S.size = 0 + (if q < mu + 1 then mu + 1 else q) + (if 0 < mu then 1 else 0)) := by
    show S.size = _; rw [hS, hq]; exact str_len false mu u
  have hqb : q ≤ 20 := by rw [hq]; exact Lib.nDigits_le20 u (by omega)
  have hq1 : 1 ≤ q := by rw [hq]; exact Lib.nDigits_pos u
  rw [show str (textL false mu u) = S from HSS.out.symm]
  clear hS hq
  go_wp2
  have TAB1 : Hid (Lib.TabIs Tryd.prog w1 Tryd.pow10Name .u64 Lib.pow10Tab) := Lib.tabBelow_of_tabIs HTAB.out _ HB.out
  go_loop [9, 10] (fun m x => ∃ y c : Nat, y ≤ u ∧ 1 ≤ c ∧ c ≤ q ∧ m = .int .u64 (y : Int) ∧ x = .int .i64 (c : Int) ∧ Hid (c + Lib.nDigits y = q + 1)) (fun m _ => (intOf m).toNat)
  case atStart => exact ⟨u, 1, Nat.le_refl _, Nat.le_refl _, hq1, rfl, rfl, by show 1 + Lib.nDigits u = q + 1; rw [HQ.out]; omega⟩
  case round =>
    obtain ⟨y, c, hy, hc1, hcq, rfl, rfl, HY⟩ := hrel
    by_cases hlt : y < 10
    · have hcq2 : c = q := by have := HY.out; rw [Lib.nDigits_small hlt] at this; omega
      rw [hcq2]
      clear hcq2 hcq HY hc1 c
      by_cases hq2 : q < mu + 1
      · by_cases hm : 0 < mu
        · have hL : S.size = 0 + (mu + 1) + 1 := by have := HSL.out; rw [if_pos hq2, if_pos hm] at this; exact this
          have hLb : S.size ≤ 70000 := by omega
          have hqd : decide ((q : Int) < (mu : Int) + 1) = true := by simp; omega
          have hmd : decide ((0 : Int) < (mu : Int)) = true := by simp; omega
          have hmz : ((mu : Int) == 0) = false := by simp; omega
          have HL : Hid (S.size = 0 + (mu + 1) + 1) := hL
          have hne : ((S.size : Int) != (((mu : Int) + 1) + 1)) = false := by simp; omega
          clear hL
          by_cases u0 : 0 < u
          · go_wp2_with fail
            refine (fmt_neg code mu u _ (by omega) (by omega) (by omega) TAB1.out).mono ?_
            rintro e w2 ⟨rfl, hb⟩
            have HB2 : Hid (Below w.heap.size w w2) := HB.out.trans (hb.mono HB.out.size)
            have TAB2 : Hid (Lib.TabIs Tryd.prog w2 Tryd.pow10Name .u64 Lib.pow10Tab) := Lib.tabBelow_of_tabIs HTAB.out _ HB2.out
            rw [show str (textL true mu u) = (⟨#[45]⟩ : ByteArray) ++ S from by rw [HSS.out]; exact str_neg mu u]
            clear hb
            by_cases hr : u ≤ 922337203685477580
            · go_wp2_with fail
              rw [show ((u : Int) * 10) = ((u * 10 : Nat) : Int) by omega, show ((mu : Int) + 1) = ((mu + 1 : Nat) : Int) by omega]
              refine (fmt_pos code (mu + 1) (u * 10) _ (by omega) (by omega) (Lib.tabIs_alloc TAB2.out _)).mono ?_
              rintro e w3 ⟨rfl, hb⟩
              have HB3 : Hid (Below w.heap.size w w3) := (HB2.out.alloc HB2.out.size _).trans (hb.mono (by have := HB2.out.size; simp; omega))
              rw [show str (textL false (mu + 1) (u * 10)) = S ++ (⟨#[48]⟩ : ByteArray) from by rw [HSS.out]; exact str_ten false mu u hm]
              clear hb
              go_wp2
              go_ret
              exact ⟨by simp, HB3.out⟩
            · go_wp2
              go_ret
              exact ⟨rfl, HB2.out⟩
          · by_cases hr : u ≤ 922337203685477580
            · go_wp2_with fail
              rw [show ((u : Int) * 10) = ((u * 10 : Nat) : Int) by omega, show ((mu : Int) + 1) = ((mu + 1 : Nat) : Int) by omega]
              refine (fmt_pos code (mu + 1) (u * 10) _ (by omega) (by omega) (Lib.tabIs_alloc TAB1.out _)).mono ?_
              rintro e w3 ⟨rfl, hb⟩
              have HB3 : Hid (Below w.heap.size w w3) := (HB.out.alloc HB.out.size _).trans (hb.mono (by have := HB.out.size; simp; omega))
              rw [show str (textL false (mu + 1) (u * 10)) = S ++ (⟨#[48]⟩ : ByteArray) from by rw [HSS.out]; exact str_ten false mu u hm]
              clear hb
              go_wp2
              go_ret
              exact ⟨by simp, HB3.out⟩
            · exfalso; omega
        · exfalso; omega
      · by_cases hm : 0 < mu
        · have hL : S.size = 0 + q + 1 := by have := HSL.out; rw [if_neg hq2, if_pos hm] at this; exact this
          have hLb : S.size ≤ 70000 := by omega
          have hqd : decide ((q : Int) < (mu : Int) + 1) = false := by simp; omega
          have hmd : decide ((0 : Int) < (mu : Int)) = true := by simp; omega
          have hmz : ((mu : Int) == 0) = false := by simp; omega
          have HL : Hid (S.size = 0 + q + 1) := hL
          have hne : ((S.size : Int) != ((q : Int) + 1)) = false := by simp; omega
          clear hL
          by_cases u0 : 0 < u
          · go_wp2_with fail
            refine (fmt_neg code mu u _ (by omega) (by omega) (by omega) TAB1.out).mono ?_
            rintro e w2 ⟨rfl, hb⟩
            have HB2 : Hid (Below w.heap.size w w2) := HB.out.trans (hb.mono HB.out.size)
            have TAB2 : Hid (Lib.TabIs Tryd.prog w2 Tryd.pow10Name .u64 Lib.pow10Tab) := Lib.tabBelow_of_tabIs HTAB.out _ HB2.out
            rw [show str (textL true mu u) = (⟨#[45]⟩ : ByteArray) ++ S from by rw [HSS.out]; exact str_neg mu u]
            clear hb
            by_cases hr : u ≤ 922337203685477580
            · go_wp2_with fail
              rw [show ((u : Int) * 10) = ((u * 10 : Nat) : Int) by omega, show ((mu : Int) + 1) = ((mu + 1 : Nat) : Int) by omega]
              refine (fmt_pos code (mu + 1) (u * 10) _ (by omega) (by omega) (Lib.tabIs_alloc TAB2.out _)).mono ?_
              rintro e w3 ⟨rfl, hb⟩
              have HB3 : Hid (Below w.heap.size w w3) := (HB2.out.alloc HB2.out.size _).trans (hb.mono (by have := HB2.out.size; simp; omega))
              rw [show str (textL false (mu + 1) (u * 10)) = S ++ (⟨#[48]⟩ : ByteArray) from by rw [HSS.out]; exact str_ten false mu u hm]
              clear hb
              go_wp2
              go_ret
              exact ⟨by simp, HB3.out⟩
            · go_wp2
              go_ret
              exact ⟨rfl, HB2.out⟩
          · by_cases hr : u ≤ 922337203685477580
            · go_wp2_with fail
              rw [show ((u : Int) * 10) = ((u * 10 : Nat) : Int) by omega, show ((mu : Int) + 1) = ((mu + 1 : Nat) : Int) by omega]
              refine (fmt_pos code (mu + 1) (u * 10) _ (by omega) (by omega) (Lib.tabIs_alloc TAB1.out _)).mono ?_
              rintro e w3 ⟨rfl, hb⟩
              have HB3 : Hid (Below w.heap.size w w3) := (HB.out.alloc HB.out.size _).trans (hb.mono (by have := HB.out.size; simp; omega))
              rw [show str (textL false (mu + 1) (u * 10)) = S ++ (⟨#[48]⟩ : ByteArray) from by rw [HSS.out]; exact str_ten false mu u hm]
              clear hb
              go_wp2
              go_ret
              exact ⟨by simp, HB3.out⟩
            · exfalso; omega
        · have hL : S.size = 0 + q + 0 := by have := HSL.out; rw [if_neg hq2, if_neg hm] at this; exact this
          have hLb : S.size ≤ 70000 := by omega
          have hqd : decide ((q : Int) < (mu : Int) + 1) = false := by simp; omega
          have hmd : decide ((0 : Int) < (mu : Int)) = false := by simp; omega
          have hmz : ((mu : Int) == 0) = true := by simp; omega
          have HL : Hid (S.size = 0 + q + 0) := hL
          have hne : ((S.size : Int) != (q : Int)) = false := by simp; omega
          clear hL
          by_cases u0 : 0 < u
          · go_wp2_with fail
            refine (fmt_neg code mu u _ (by omega) (by omega) (by omega) TAB1.out).mono ?_
            rintro e w2 ⟨rfl, hb⟩
            have HB2 : Hid (Below w.heap.size w w2) := HB.out.trans (hb.mono HB.out.size)
            have TAB2 : Hid (Lib.TabIs Tryd.prog w2 Tryd.pow10Name .u64 Lib.pow10Tab) := Lib.tabBelow_of_tabIs HTAB.out _ HB2.out
            rw [show str (textL true mu u) = (⟨#[45]⟩ : ByteArray) ++ S from by rw [HSS.out]; exact str_neg mu u]
            clear hb
            by_cases hr : u ≤ 922337203685477580
            · go_wp2_with fail
              rw [show ((u : Int) * 10) = ((u * 10 : Nat) : Int) by omega, show ((mu : Int) + 1) = ((mu + 1 : Nat) : Int) by omega]
              refine (fmt_pos code (mu + 1) (u * 10) _ (by omega) (by omega) (Lib.tabIs_alloc TAB2.out _)).mono ?_
              rintro e w3 ⟨rfl, hb⟩
              have HB3 : Hid (Below w.heap.size w w3) := (HB2.out.alloc HB2.out.size _).trans (hb.mono (by have := HB2.out.size; simp; omega))
              rw [show str (textL false (mu + 1) (u * 10)) = S ++ (⟨#[46, 48]⟩ : ByteArray) from by rw [HSS.out]; exact str_ten0 false mu u hm]
              clear hb
              go_wp2
              go_ret
              exact ⟨by simp, HB3.out⟩
            · go_wp2
              go_ret
              exact ⟨rfl, HB2.out⟩
          · by_cases hr : u ≤ 922337203685477580
            · go_wp2_with fail
              rw [show ((u : Int) * 10) = ((u * 10 : Nat) : Int) by omega, show ((mu : Int) + 1) = ((mu + 1 : Nat) : Int) by omega]
              refine (fmt_pos code (mu + 1) (u * 10) _ (by omega) (by omega) (Lib.tabIs_alloc TAB1.out _)).mono ?_
              rintro e w3 ⟨rfl, hb⟩
              have HB3 : Hid (Below w.heap.size w w3) := (HB.out.alloc HB.out.size _).trans (hb.mono (by have := HB.out.size; simp; omega))
              rw [show str (textL false (mu + 1) (u * 10)) = S ++ (⟨#[46, 48]⟩ : ByteArray) from by rw [HSS.out]; exact str_ten0 false mu u hm]
              clear hb
              go_wp2
              go_ret
              exact ⟨by simp, HB3.out⟩
            · exfalso; omega
    · have HN : Hid (c + 1 + Lib.nDigits (y / 10) = q + 1) := by show c + 1 + Lib.nDigits (y / 10) = q + 1; have := HY.out; rw [Lib.nDigits_big hlt] at this; omega
      have hcb : c + 1 ≤ q := by have := HN.out; have := Lib.nDigits_pos (y / 10); omega
      go_wp2
      go_round
      case rel => exact ⟨y / 10, c + 1, by omega, by omega, hcb, by first | rfl | (refine congrArg (Value.int .u64) ?_; omega), by first | rfl | (refine congrArg (Value.int .i64) ?_; omega), HN⟩
      case measure => simp only [intOf]; omega
end Go.Proofs.Qxb6628869aDoor
