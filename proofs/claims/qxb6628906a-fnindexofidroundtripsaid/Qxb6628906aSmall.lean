/-
  The small functions: the bounds (5, 9), 'zzFirst' (6), the wrappers (11 to 14).
-/
import Derived.Test.Qxb6628906aSlot
set_option linter.unusedVariables false
namespace Go.Proofs.Qxb6628906a
open Go.RowKit

/-- A slice of strings as it came in: empty (at whatever address), or its cells lie in one row. -/
def StrRow (w : World) (a : Option Addr) (n : Nat) (ss : List ByteArray) : Prop :=
  ss.length = n ∧ (n = 0 ∨ ∃ b off, a = some ⟨b, off, none⟩ ∧ b < w.heap.size ∧ ∀ j, j < n → w.cell? ⟨b, off + j, none⟩ = some (.string (key ss j)))
/-- It has returned a bool; where that is true, the list and its strings are short. -/
def RetOK (n : Nat) (ss : List ByteArray) (e : Ending) : Prop := ∃ r, e = .returned (.bool r) ∧ (r = true → n ≤ 1048576 ∧ ∀ j, j < n → (key ss j).size ≤ 1048576)
theorem RetOK.no (n : Nat) (ss : List ByteArray) : RetOK n ss (.returned (.bool false)) := ⟨false, rfl, fun h => by cases h⟩
theorem RetOK.yes {n : Nat} {ss : List ByteArray} (h : n ≤ 1048576) (k : ∀ j, j < n → (key ss j).size ≤ 1048576) : RetOK n ss (.returned (.bool true)) := ⟨true, rfl, fun _ => ⟨h, k⟩⟩
theorem StrRow.below {w w' : World} {a : Option Addr} {n : Nat} {ss : List ByteArray} (h : StrRow w a n ss) (hb : Below w.heap.size w w') : StrRow w' a n ss := by
  refine ⟨h.1, ?_⟩
  rcases h.2 with h0 | ⟨b, off, rfl, hlt, hc⟩
  · exact .inl h0
  · exact .inr ⟨b, off, rfl, Nat.lt_of_lt_of_le hlt hb.size, fun j hj => by rw [hb.cell (p := ⟨b, off + j, none⟩) hlt]; exact hc j hj⟩

set_option maxHeartbeats 400000 in
theorem bytes5 (a : Option Addr) (n cap : Nat) (ss : List ByteArray) (a2 : Option Addr) (n2 cap2 : Nat) (hn2 : n2 ≤ maxLen) (w : World) (hn : n ≤ maxLen) (hr : StrRow w a n ss) :
    Calls Try.prog 5 #[.slice a n cap, .slice a2 n2 cap2] w fun e w' => RetOK n ss e ∧ w' = w := by
  unfold maxLen at hn hn2
  obtain ⟨_, hr⟩ := hr
  rcases hr with rfl | ⟨b, off, rfl, hb, hc⟩
  · go_enter Try.func5, Try.ntmps5
    go_wp2
    go_loop [5, 6] (fun m i => m = .int .i64 0 ∧ i = .int .i64 0) (fun _ _ => 0)
    case atStart => exact ⟨rfl, rfl⟩
    case round =>
      obtain ⟨rfl, rfl⟩ := hrel
      go_wp2
      all_goals (go_ret; first | exact ⟨RetOK.no _ _, rfl⟩ | exact ⟨RetOK.yes (by omega) (fun j h => by omega), rfl⟩)
  · have HC : Hid (∀ j, j < n → w.cell? ⟨b, off + j, none⟩ = some (.string (key ss j))) := hc
    clear hc
    go_enter Try.func5, Try.ntmps5
    go_wp2
    any_goals (go_ret; exact ⟨RetOK.no _ _, rfl⟩)
    go_loop [5, 6] (fun m i => ∃ (k : Nat) (z : Int), k ≤ n ∧ 0 ≤ z ∧ z ≤ 1048576 ∧ m = .int .i64 z ∧ i = .int .i64 k ∧ Hid (∀ j, j < k → (key ss j).size ≤ 1048576)) (fun _ i => n - (intOf i).toNat)
    case atStart => exact ⟨0, _, by omega, by omega, by omega, rfl, rfl, fun j h => by omega⟩
    case round =>
      obtain ⟨k, z, hk, hz0, hz1, rfl, rfl, HK⟩ := hrel
      by_cases hlt : k < n
      · obtain ⟨s, hs⟩ : ∃ s, s = key ss k := ⟨_, rfl⟩
        have hcell : w.cell? ⟨b, off + k, none⟩ = some (.string s) := by rw [hs]; exact HC.out k hlt
        have HSK : Hid (s = key ss k) := hs
        clear hs
        go_wp2
        any_goals (go_ret; exact ⟨RetOK.no _ _, rfl⟩)
        go_round
        case rel => exact ⟨k + 1, _, by omega, by omega, by assumption, rfl, by go_num, fun j h => by
          by_cases e : j = k
          · rw [e, ← HSK.out]; omega
          · exact HK.out j (by omega)⟩
        case measure => simp [intOf]; omega
      · have hkn : k = n := by omega
        go_wp2
        all_goals (go_ret; first | exact ⟨RetOK.no _ _, rfl⟩ | exact ⟨RetOK.yes (by omega) (fun j h => HK.out j (by omega)), rfl⟩)

set_option maxHeartbeats 400000 in
theorem bytes9 (a : Option Addr) (n cap : Nat) (ss : List ByteArray) (i : Int) (w : World) (hn : n ≤ maxLen) (hr : StrRow w a n ss) :
    Calls Try.prog 9 #[.slice a n cap, .int .i64 i] w fun e w' => RetOK n ss e ∧ w' = w := by
  unfold maxLen at hn
  obtain ⟨_, hr⟩ := hr
  rcases hr with rfl | ⟨b, off, rfl, hb, hc⟩
  · go_enter Try.func9, Try.ntmps9
    go_wp2
    go_loop [5, 6] (fun m i => m = .int .i64 0 ∧ i = .int .i64 0) (fun _ _ => 0)
    case atStart => exact ⟨rfl, rfl⟩
    case round =>
      obtain ⟨rfl, rfl⟩ := hrel
      go_wp2
      all_goals (go_ret; first | exact ⟨RetOK.no _ _, rfl⟩ | exact ⟨RetOK.yes (by omega) (fun j h => by omega), rfl⟩)
  · have HC : Hid (∀ j, j < n → w.cell? ⟨b, off + j, none⟩ = some (.string (key ss j))) := hc
    clear hc
    go_enter Try.func9, Try.ntmps9
    go_wp2
    any_goals (go_ret; exact ⟨RetOK.no _ _, rfl⟩)
    go_loop [5, 6] (fun m i => ∃ (k : Nat) (z : Int), k ≤ n ∧ 0 ≤ z ∧ z ≤ 1048576 ∧ m = .int .i64 z ∧ i = .int .i64 k ∧ Hid (∀ j, j < k → (key ss j).size ≤ 1048576)) (fun _ i => n - (intOf i).toNat)
    case atStart => exact ⟨0, _, by omega, by omega, by omega, rfl, rfl, fun j h => by omega⟩
    case round =>
      obtain ⟨k, z, hk, hz0, hz1, rfl, rfl, HK⟩ := hrel
      by_cases hlt : k < n
      · obtain ⟨s, hs⟩ : ∃ s, s = key ss k := ⟨_, rfl⟩
        have hcell : w.cell? ⟨b, off + k, none⟩ = some (.string s) := by rw [hs]; exact HC.out k hlt
        have HSK : Hid (s = key ss k) := hs
        clear hs
        go_wp2
        any_goals (go_ret; exact ⟨RetOK.no _ _, rfl⟩)
        go_round
        case rel => exact ⟨k + 1, _, by omega, by omega, by assumption, rfl, by go_num, fun j h => by
          by_cases e : j = k
          · rw [e, ← HSK.out]; omega
          · exact HK.out j (by omega)⟩
        case measure => simp [intOf]; omega
      · have hkn : k = n := by omega
        go_wp2
        all_goals (go_ret; first | exact ⟨RetOK.no _ _, rfl⟩ | exact ⟨RetOK.yes (by omega) (fun j h => HK.out j (by omega)), rfl⟩)

/-- r is the first place at which ss holds t, or -1. -/
def FirstAt (ss : List ByteArray) (n : Nat) (t : ByteArray) (r : Int) : Prop :=
  (r = -1 ∧ ∀ j, j < n → key ss j ≠ t) ∨ ∃ k : Nat, r = (k : Int) ∧ k < n ∧ key ss k = t ∧ ∀ j, j < k → key ss j ≠ t

set_option maxHeartbeats 400000 in
theorem first_any (a : Option Addr) (n cap : Nat) (ss : List ByteArray) (t : ByteArray) (w : World) (hn : n ≤ 1048576) (hr : StrRow w a n ss) :
    Calls Try.prog 6 #[.slice a n cap, .string t] w fun e w' => (∃ r, e = .returned (.int .i64 r) ∧ FirstAt ss n t r) ∧ w' = w := by
  obtain ⟨_, hr⟩ := hr
  rcases hr with rfl | ⟨b, off, rfl, hb, hc⟩
  · go_enter Try.func6, Try.ntmps6
    go_wp2
    go_loop [5] (fun i => i = .int .i64 0) (fun _ => 0)
    case atStart => exact rfl
    case round =>
      obtain rfl := hrel
      go_wp2
      go_ret
      exact ⟨⟨-1, rfl, .inl ⟨rfl, fun j h => by omega⟩⟩, rfl⟩
  · have HC : Hid (∀ j, j < n → w.cell? ⟨b, off + j, none⟩ = some (.string (key ss j))) := hc
    clear hc
    go_enter Try.func6, Try.ntmps6
    go_wp2
    go_loop [5] (fun i => ∃ k : Nat, k ≤ n ∧ i = .int .i64 k ∧ Hid (∀ j, j < k → key ss j ≠ t)) (fun i => n - (intOf i).toNat)
    case atStart => exact ⟨0, by omega, rfl, fun j h => by omega⟩
    case round =>
      obtain ⟨k, hk, rfl, HK⟩ := hrel
      by_cases hlt : k < n
      · obtain ⟨s, hs⟩ : ∃ s, s = key ss k := ⟨_, rfl⟩
        have hcell : w.cell? ⟨b, off + k, none⟩ = some (.string s) := by rw [hs]; exact HC.out k hlt
        have HSK : Hid (s = key ss k) := hs
        clear hs
        by_cases hst : s = t
        · have hbq := beq_yes hst
          have HST : Hid (s = t) := hst
          clear hst
          go_wp2
          go_ret
          exact ⟨⟨k, rfl, .inr ⟨k, rfl, hlt, by rw [← HSK.out]; exact HST.out, HK.out⟩⟩, rfl⟩
        · have hbq := beq_no hst
          have HST : Hid (s ≠ t) := hst
          clear hst
          go_wp2
          go_round
          case rel => exact ⟨k + 1, by omega, by go_num, fun j h => by
            by_cases e : j = k
            · rw [e, ← HSK.out]; exact HST.out
            · exact HK.out j (by omega)⟩
          case measure => simp [intOf]; omega
      · have hkn : k = n := by omega
        go_wp2
        go_ret
        exact ⟨⟨-1, rfl, .inl ⟨rfl, fun j h => HK.out j (by omega)⟩⟩, rfl⟩

theorem new_any (f e t : Option Addr) (fn en tn : Nat) (T : ByteArray) (w : World) :
    Calls Try.prog 11 #[.slice f fn fn, .string T, .slice e en en, .slice t tn tn] w fun r w' => r = .returned (.pointer (some ⟨w.heap.size, 0, none⟩)) ∧ w' = w.alloc (.cells #[.slice f fn fn, .string T, .slice e en en, .slice t tn tn] 45) := by
  go_enter Try.func11, Try.ntmps11
  go_wp2
  go_ret
  exact ⟨rfl, rfl⟩

theorem zhash_any (a : Option Addr) (cap : Nat) (x : ByteArray) (w : World) (hn : x.size ≤ 1048576) (hcap : x.size ≤ cap) (hr : ByteRow w a x.size (ints x)) :
    Calls Try.prog 12 #[.slice a x.size cap] w fun e w' => e = .returned (.int .u64 ((H x : Nat) : Int)) ∧ Below w.heap.size w w' := by
  have HC := hash_key a cap x w hn hcap hr
  have HH : Hid (Calls Try.prog 15 #[.slice a x.size cap] w fun e w' => e = .returned (.int .u64 ((H x : Nat) : Int)) ∧ Below w.heap.size w w') := HC
  clear HC hr
  go_enter Try.func12, Try.ntmps12
  go_wp2_with fail
  refine HH.out.mono ?_
  rintro e w1 ⟨rfl, hb⟩
  have HB : Hid (Below w.heap.size w w1) := hb
  clear hb
  go_wp2
  go_ret
  exact ⟨rfl, HB.out⟩

theorem zslot_any (q : Value) (a : Option Addr) (n cap : Nat) (h : Int) (p : Nat) (w : World) (hc : Calls Try.prog 17 #[q, .slice a n cap, .int .u64 h] w fun e w' => e = .returned (.int .i64 (p : Int)) ∧ ∃ m, w' = w.drewN m) :
    Calls Try.prog 13 #[q, .slice a n cap, .int .u64 h] w fun e w' => e = .returned (.int .i64 (p : Int)) ∧ ∃ m, w' = w.drewN m := by
  have HH : Hid (Calls Try.prog 17 #[q, .slice a n cap, .int .u64 h] w fun e w' => e = .returned (.int .i64 (p : Int)) ∧ ∃ m, w' = w.drewN m) := hc
  clear hc
  go_enter Try.func13, Try.ntmps13
  go_wp2_with fail
  refine HH.out.mono ?_
  rintro e w1 ⟨rfl, m, hw⟩
  rw [hw]
  clear hw w1
  go_wp2
  go_ret
  exact ⟨rfl, _, rfl⟩

theorem zbits_any (q : Value) (h : Int) (A B : Int) (w : World) (hc : Calls Try.prog 16 #[q, .int .u64 h] w fun e w' => e = .returned (.tuple #[.int .u64 A, .int .u64 B]) ∧ w' = w) :
    Calls Try.prog 14 #[q, .int .u64 h] w fun e w' => e = .returned (.tuple #[.int .u64 A, .int .u64 B]) ∧ w' = w := by
  have HH : Hid (Calls Try.prog 16 #[q, .int .u64 h] w fun e w' => e = .returned (.tuple #[.int .u64 A, .int .u64 B]) ∧ w' = w) := hc
  clear hc
  go_enter Try.func14, Try.ntmps14
  go_wp2_with fail
  refine HH.out.mono ?_
  rintro e w1 ⟨rfl, hw⟩
  rw [hw]
  clear hw w1
  go_wp2
  go_ret2
  exact ⟨rfl, rfl⟩
end Go.Proofs.Qxb6628906a
