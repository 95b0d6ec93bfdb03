/-
  The walks of the three bounds: 'zzBytes_..' (5, 9) and 'zzOAuthSizeOK' (6). Each returns a bool and turns nothing; where 'zzOAuthSizeOK' says yes the list holds at most 65,536 strings.
-/
import Derived.Test.Qxb6628777aRows
import Derived.WalkKit
import Derived.WalkSpells
import Derived.WalkLawsBesides
namespace Go.Proofs.Qxb6628777a
open Go.RowKit

/-- A slice of strings as it came in: empty (at whatever address), or its cells lie in one row. -/
def StrRow (w : World) (a : Option Addr) (n : Nat) (ss : List ByteArray) : Prop :=
  ss.length = n ∧ (n = 0 ∨ ∃ b off, a = some ⟨b, off, none⟩ ∧ b < w.heap.size ∧ ∀ j, j < n → w.cell? ⟨b, off + j, none⟩ = some (.string (ss.getD j ByteArray.empty)))

/-- It has returned a bool. -/
def RetBool (e : Ending) : Prop := ∃ r, e = .returned (.bool r)
theorem RetBool.mk (r : Bool) : RetBool (.returned (.bool r)) := ⟨r, rfl⟩
/-- It has returned a bool; where that is true, n is at most 65,536. -/
def RetFits (n : Nat) (e : Ending) : Prop := ∃ r, e = .returned (.bool r) ∧ (r = true → n ≤ 65536)
theorem RetFits.no (n : Nat) : RetFits n (.returned (.bool false)) := ⟨false, rfl, fun h => by cases h⟩
theorem RetFits.yes {n : Nat} (h : n ≤ 65536) : RetFits n (.returned (.bool true)) := ⟨true, rfl, fun _ => h⟩

set_option maxHeartbeats 400000 in
theorem bytes1 (t c s x : ByteArray) (a : Option Addr) (n cap : Nat) (ss : List ByteArray) (p : Int) (w : World) (hn : n ≤ maxLen) (hr : StrRow w a n ss) :
    Calls Try.prog 5 #[.string t, .string c, .string s, .slice a n cap, .string x, .int .i64 p] w fun e w' => RetBool e ∧ w' = w := by
  unfold maxLen at hn
  obtain ⟨_, hr⟩ := hr
  rcases hr with rfl | ⟨b, off, rfl, hb, hc⟩
  · go_enter Try.func5, Try.ntmps5
    go_wp2
    any_goals (go_ret; exact ⟨RetBool.mk _, rfl⟩)
    go_loop [13, 14] (fun m i => ∃ (z : Int), 0 ≤ z ∧ z ≤ 1048576 ∧ m = .int .i64 z ∧ i = .int .i64 0) (fun _ _ => 0)
    case atStart => exact ⟨_, by omega, by omega, rfl, rfl⟩
    case round =>
      obtain ⟨z, hz0, hz1, rfl, rfl⟩ := hrel
      go_wp2
      all_goals (go_ret; exact ⟨RetBool.mk _, rfl⟩)
  · go_enter Try.func5, Try.ntmps5
    go_wp2
    any_goals (go_ret; exact ⟨RetBool.mk _, rfl⟩)
    go_loop [13, 14] (fun m i => ∃ (k : Nat) (z : Int), k ≤ n ∧ 0 ≤ z ∧ z ≤ 1048576 ∧ m = .int .i64 z ∧ i = .int .i64 k) (fun _ i => n - (intOf i).toNat)
    case atStart => exact ⟨0, _, by omega, by omega, by omega, rfl, rfl⟩
    case round =>
      obtain ⟨k, z, hk, hz0, hz1, rfl, rfl⟩ := hrel
      have hcell : k < n → w.cell? ⟨b, off + k, none⟩ = some (.string (ss.getD k ByteArray.empty)) := fun h => hc k h
      go_wp2
      any_goals (go_ret; exact ⟨RetBool.mk _, rfl⟩)
      go_round
      case rel => exact ⟨k + 1, _, by omega, by omega, by assumption, rfl, by go_num⟩
      case measure => simp [intOf]; omega

set_option maxHeartbeats 400000 in
theorem bytes2 (t c s x : ByteArray) (a : Option Addr) (n cap : Nat) (ss : List ByteArray) (f p : Int) (w : World) (hn : n ≤ maxLen) (hr : StrRow w a n ss) :
    Calls Try.prog 9 #[.string t, .string c, .string s, .slice a n cap, .int .u8 f, .int .i64 p, .string x] w fun e w' => RetBool e ∧ w' = w := by
  unfold maxLen at hn
  obtain ⟨_, hr⟩ := hr
  rcases hr with rfl | ⟨b, off, rfl, hb, hc⟩
  · go_enter Try.func9, Try.ntmps9
    go_wp2
    any_goals (go_ret; exact ⟨RetBool.mk _, rfl⟩)
    go_loop [15, 16] (fun m i => ∃ (z : Int), 0 ≤ z ∧ z ≤ 1048576 ∧ m = .int .i64 z ∧ i = .int .i64 0) (fun _ _ => 0)
    case atStart => exact ⟨_, by omega, by omega, rfl, rfl⟩
    case round =>
      obtain ⟨z, hz0, hz1, rfl, rfl⟩ := hrel
      go_wp2
      all_goals (go_ret; exact ⟨RetBool.mk _, rfl⟩)
  · go_enter Try.func9, Try.ntmps9
    go_wp2
    any_goals (go_ret; exact ⟨RetBool.mk _, rfl⟩)
    go_loop [15, 16] (fun m i => ∃ (k : Nat) (z : Int), k ≤ n ∧ 0 ≤ z ∧ z ≤ 1048576 ∧ m = .int .i64 z ∧ i = .int .i64 k) (fun _ i => n - (intOf i).toNat)
    case atStart => exact ⟨0, _, by omega, by omega, by omega, rfl, rfl⟩
    case round =>
      obtain ⟨k, z, hk, hz0, hz1, rfl, rfl⟩ := hrel
      have hcell : k < n → w.cell? ⟨b, off + k, none⟩ = some (.string (ss.getD k ByteArray.empty)) := fun h => hc k h
      go_wp2
      any_goals (go_ret; exact ⟨RetBool.mk _, rfl⟩)
      go_round
      case rel => exact ⟨k + 1, _, by omega, by omega, by assumption, rfl, by go_num⟩
      case measure => simp [intOf]; omega

set_option maxHeartbeats 400000 in
theorem sizeOK (t c s x : ByteArray) (a : Option Addr) (n cap : Nat) (ss : List ByteArray) (w : World) (hn : n ≤ maxLen) (hr : StrRow w a n ss) :
    Calls Try.prog 6 #[.string t, .string c, .string s, .string x, .slice a n cap] w fun e w' => RetFits n e ∧ w' = w := by
  unfold maxLen at hn
  obtain ⟨_, hr⟩ := hr
  rcases hr with rfl | ⟨b, off, rfl, hb, hc⟩
  · go_enter Try.func6, Try.ntmps6
    go_wp2
    any_goals (go_ret; exact ⟨RetFits.no _, rfl⟩)
    go_loop [11, 12] (fun m i => ∃ (z : Int), 0 ≤ z ∧ z ≤ 1048576 ∧ m = .int .i64 z ∧ i = .int .i64 0) (fun _ _ => 0)
    case atStart => exact ⟨_, by omega, by omega, rfl, rfl⟩
    case round =>
      obtain ⟨z, hz0, hz1, rfl, rfl⟩ := hrel
      go_wp2
      all_goals (go_ret; first | exact ⟨RetFits.no _, rfl⟩ | exact ⟨RetFits.yes (by omega), rfl⟩)
  · go_enter Try.func6, Try.ntmps6
    go_wp2
    any_goals (go_ret; exact ⟨RetFits.no _, rfl⟩)
    go_loop [11, 12] (fun m i => ∃ (k : Nat) (z : Int), k ≤ n ∧ 0 ≤ z ∧ z ≤ 1048576 ∧ m = .int .i64 z ∧ i = .int .i64 k) (fun _ i => n - (intOf i).toNat)
    case atStart => exact ⟨0, _, by omega, by omega, by omega, rfl, rfl⟩
    case round =>
      obtain ⟨k, z, hk, hz0, hz1, rfl, rfl⟩ := hrel
      have hcell : k < n → w.cell? ⟨b, off + k, none⟩ = some (.string (ss.getD k ByteArray.empty)) := fun h => hc k h
      go_wp2
      any_goals (go_ret; first | exact ⟨RetFits.no _, rfl⟩ | exact ⟨RetFits.yes (by omega), rfl⟩)
      go_round
      case rel => exact ⟨k + 1, _, by omega, by omega, by assumption, rfl, by go_num⟩
      case measure => simp [intOf]; omega
end Go.Proofs.Qxb6628777a
