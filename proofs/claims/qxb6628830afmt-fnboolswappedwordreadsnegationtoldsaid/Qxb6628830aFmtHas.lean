/-
  The walks of the laws' own helpers: 'isJSONSpace' (14), 'spaceRunEnds' (9), 'hasWordAt' (10), the bounds (5, 11).
-/
import Derived.Test.Qxb6628830aFmtBool
namespace Go.Proofs.Qxb6628830aFmt
open Go.RowKit

def RetBool (e : Ending) : Prop := ∃ r, e = .returned (.bool r)
theorem RetBool.mk (r : Bool) : RetBool (.returned (.bool r)) := ⟨r, rfl⟩

set_option maxHeartbeats 400000 in
theorem bytes1 (a : Option Addr) (n cap : Nat) (p d : Int) (w : World) : Calls Tryf.prog 5 #[.slice a n cap, .int .i64 p, .int .i64 d] w fun e w' => RetBool e ∧ w' = w := by
  go_enter Tryf.func5, Tryf.ntmps5
  go_wp2
  all_goals (go_ret; exact ⟨RetBool.mk _, rfl⟩)

set_option maxHeartbeats 400000 in
theorem bytes2 (a : Option Addr) (n cap : Nat) (p d : Int) (w : World) : Calls Tryf.prog 11 #[.slice a n cap, .int .i64 p, .int .i64 d] w fun e w' => RetBool e ∧ w' = w := by
  go_enter Tryf.func11, Tryf.ntmps11
  go_wp2
  all_goals (go_ret; exact ⟨RetBool.mk _, rfl⟩)

set_option maxHeartbeats 400000 in
theorem space_any (c : Int) (w : World) : Calls Tryf.prog 14 #[.int .u8 c] w fun e w' => e = .returned (.bool (spc c)) ∧ w' = w := by
  go_enter Tryf.func14, Tryf.ntmps14
  go_wp2
  all_goals (go_ret; exact ⟨by simp [spc, *], rfl⟩)

set_option maxHeartbeats 400000 in
theorem sre_true (a : Option Addr) (n cap p k : Nat) (zs : List Int) (t : Int) (w : World) (hn : n ≤ 1048577) (hsk : SkipTo zs n p k) (ht : t = (k : Int)) (hr : ByteRow w a n zs) :
    Calls Tryf.prog 9 #[.slice a n cap, .int .i64 p, .int .i64 t] w fun e w' => e = .returned (.bool true) ∧ w' = w := by
  subst ht
  have HSK : Hid (SkipTo zs n p k) := hsk
  have hlo := hsk.lo
  have hhi := hsk.hi
  obtain ⟨_, hr⟩ := hr
  have d1 : decide ((p : Int) < 0) = false := by simp
  have d2 : decide ((k : Int) < (p : Int)) = false := by simp; omega
  have d3 : decide ((n : Int) < (k : Int)) = false := by simp; omega
  have d2n : decide (k < p) = false := by simp; omega
  have d3n : decide (n < k) = false := by simp; omega
  clear hsk
  rcases hr with h0 | ⟨g, off, rfl, hg, hc⟩
  · have hn0 : n ≤ 0 := by omega
    have de : ((k : Int) == (n : Int)) = true := by simp; omega
    clear h0
    go_enter Tryf.func9, Tryf.ntmps9
    go_wp2
    go_loop [7] (fun v => ∃ i : Nat, p ≤ i ∧ i ≤ k ∧ v = .int .i64 i) (fun v => k - (intOf v).toNat)
    case atStart => exact ⟨p, Nat.le_refl _, hlo, rfl⟩
    case round =>
      obtain ⟨i, hi1, hi2, rfl⟩ := hrel
      have hx : ¬ i < k := by omega
      go_wp2
      go_ret
      exact ⟨rfl, rfl⟩
  · have HC : Hid (∀ j, j < n → w.cell? ⟨g, off + j, none⟩ = some (.int .u8 (zs.getD j 0))) := hc
    clear hc
    go_enter Tryf.func9, Tryf.ntmps9
    go_wp2
    go_loopw [7] (fun v wr => ∃ i : Nat, p ≤ i ∧ i ≤ k ∧ v = .int .i64 i ∧ wr = w) (fun v _ => k - (intOf v).toNat)
    case atStart => exact ⟨p, Nat.le_refl _, hlo, rfl, rfl⟩
    case round =>
      obtain ⟨i, hi1, hi2, rfl, hwr⟩ := hrel
      rw [hwr]
      clear hwr wr
      by_cases hlt : i < k
      · obtain ⟨c, hc⟩ : ∃ c, c = zs.getD i 0 := ⟨_, rfl⟩
        have g1 : w.cell? ⟨g, off + i, none⟩ = some (.int .u8 c) := by rw [HC.out i (by omega), hc]
        have g2 : spc c = true := by rw [hc]; exact HSK.out.all i hi1 hlt
        have HX : Hid (c = zs.getD i 0) := hc
        clear hc
        go_wp2_with fail
        refine (space_any c w).mono ?_
        rintro e w' ⟨rfl, hw⟩
        rw [g2, hw]
        clear hw
        go_wp2
        go_roundw
        case rel => exact ⟨i + 1, by omega, by omega, by go_num, by trivial⟩
        case measure => simp [intOf]; omega
      · by_cases hkn : k < n
        · have de : ((k : Int) == (n : Int)) = false := by simp; omega
          obtain ⟨c, hc⟩ : ∃ c, c = zs.getD k 0 := ⟨_, rfl⟩
          have g1 : w.cell? ⟨g, off + k, none⟩ = some (.int .u8 c) := by rw [HC.out k (by omega), hc]
          have g2 : spc c = false := by rw [hc]; exact HSK.out.stop hkn
          have HX : Hid (c = zs.getD k 0) := hc
          clear hc
          go_wp2_with fail
          refine (space_any c w).mono ?_
          rintro e w' ⟨rfl, hw⟩
          rw [g2, hw]
          clear hw
          go_wp2
          go_ret
          exact ⟨rfl, rfl⟩
        · have de : ((k : Int) == (n : Int)) = true := by simp; omega
          go_wp2
          go_ret
          exact ⟨rfl, rfl⟩

/-- The first i bytes of the word stand at s. -/
def Match (bs word : List UInt8) (s i : Nat) : Prop := ∀ j, j < i → bs.getD (s + j) 0 = word.getD j 0
theorem Match.zero (bs word : List UInt8) (s : Nat) : Match bs word s 0 := fun _ h => absurd h (Nat.not_lt_zero _)
theorem Match.step {bs word : List UInt8} {s i : Nat} (h : Match bs word s i) (e : bs.getD (s + i) 0 = word.getD i 0) : Match bs word s (i + 1) := fun j hj => by
  by_cases h1 : j < i
  · exact h j h1
  · obtain rfl : j = i := by omega
    exact e
theorem isPrefixOf_iff (bs word : List UInt8) (s : Nat) : word.isPrefixOf (bs.drop s) = true ↔ word.length ≤ bs.length - s ∧ Match bs word s word.length := by
  rw [List.isPrefixOf_iff_prefix, List.prefix_iff_getElem?]
  constructor
  · intro h
    have hl : word.length ≤ bs.length - s := by
      by_cases h0 : word.length = 0
      · omega
      · have h1 := h (word.length - 1) (by omega)
        have h2 := (List.getElem?_eq_some_iff.1 h1).1
        simp at h2; omega
    refine ⟨hl, fun j hj => ?_⟩
    have h1 := h j hj
    rw [List.getElem?_drop] at h1
    simp [List.getD, h1, hj]
  · rintro ⟨hl, h⟩ j hj
    have h1 := h j hj
    rw [List.getElem?_drop, List.getElem?_eq_getElem (by omega)]
    simp [List.getD, hj] at h1
    rw [List.getElem?_eq_getElem (by omega)] at h1
    simpa using h1

theorem byte_at (word : ByteArray) (i : Nat) (h : i < word.size) : word.data.toList.getD i 0 = word[i] := by
  have h' : i < word.data.size := h
  simp [List.getD, Array.getElem?_eq_getElem h']
  rfl

set_option maxHeartbeats 400000 in
theorem has_any (a : Option Addr) (n cap s : Nat) (bs : List UInt8) (word : ByteArray) (t : Int) (r : Bool) (w : World) (hn : n ≤ 1048577) (hs : s ≤ n) (ht : t = (s : Int)) (hws : word.size ≤ 16) (hr : ByteRow w a n (ints bs)) (hp : word.data.toList.isPrefixOf (bs.drop s) = r) :
    Calls Tryf.prog 10 #[.slice a n cap, .int .i64 t, .string word] w fun e w' => e = .returned (.bool r) ∧ ∃ m, w' = w.drewN m := by
  subst ht
  have HP : Hid (word.data.toList.isPrefixOf (bs.drop s) = r) := hp
  have HR : Hid (ByteRow w a n (ints bs)) := hr
  have HL : Hid (bs.length = n) := by rw [← ints_length]; exact hr.1
  have d1 : decide ((s : Int) < 0) = false := by simp
  have d2 : decide ((n : Int) < (s : Int)) = false := by simp; omega
  clear hp hr
  by_cases hsh : n - s < word.size
  · obtain rfl : r = false := by
      rw [← HP.out]
      cases h : word.data.toList.isPrefixOf (bs.drop s) with
      | false => rfl
      | true =>
        have := ((isPrefixOf_iff _ _ _).1 h).1
        rw [HL.out] at this
        have e : word.data.toList.length = word.size := rfl
        omega
    have d3 : decide ((n : Int) - (s : Int) < (word.size : Int)) = true := by simp; omega
    go_enter Tryf.func10, Tryf.ntmps10
    go_wp2
    go_ret
    exact ⟨rfl, 0, rfl⟩
  · have d3 : decide ((n : Int) - (s : Int) < (word.size : Int)) = false := by simp; omega
    go_enter Tryf.func10, Tryf.ntmps10
    go_wp2
    go_loopw [7] (fun v wr => ∃ (i m : Nat), i ≤ word.size ∧ v = .int .i64 i ∧ wr = w.drewN m ∧ Match bs word.data.toList s i) (fun v _ => word.size - (intOf v).toNat)
    case atStart => exact ⟨0, 0, Nat.zero_le _, rfl, rfl, Match.zero _ _ _⟩
    case round =>
      obtain ⟨i, m, hi, rfl, hw, hm⟩ := hrel
      subst hw
      have HM : Hid (Match bs word.data.toList s i) := hm
      clear hm
      by_cases hlt : i < word.size
      · obtain ⟨g, off, ha, hg, hc⟩ := HR.out.2.resolve_left (by omega)
        subst ha
        obtain ⟨c, hcc⟩ : ∃ c, c = bs.getD (s + i) 0 := ⟨_, rfl⟩
        have g1 : w.cell? ⟨g, off + (s + i), none⟩ = some (.int .u8 c.toNat) := by
          rw [hc (s + i) (by omega), hcc]
          have hlt' : s + i < bs.length := by rw [HL.out]; omega
          simp [ints, List.getD, hlt']
        have HX : Hid (c = bs.getD (s + i) 0) := hcc
        clear hc hcc
        go_wp2
        go_quiet (fail)
        go_wp2
        · have hd : ((c.toNat : Int) != (word[i].toNat : Int)) = true := by assumption
          obtain rfl : r = false := by
            rw [← HP.out]
            cases h : word.data.toList.isPrefixOf (bs.drop s) with
            | false => rfl
            | true =>
              have h1 := ((isPrefixOf_iff _ _ _).1 h).2 i hlt
              rw [← HX.out, byte_at word i hlt] at h1
              rw [h1] at hd
              simp at hd
          go_ret
          exact ⟨rfl, _, World.drewN_drewN _ _ _⟩
        · have hd : ((c.toNat : Int) != (word[i].toNat : Int)) = false := by assumption
          go_roundw
          case rel =>
            refine ⟨i + 1, _, by omega, by go_num, rfl, HM.out.step ?_⟩
            rw [← HX.out, byte_at word i hlt]
            simp at hd
            exact UInt8.toNat_inj.1 (by omega)
          case measure => simp [intOf]; omega
      · have hz : Hid (i = word.size) := by show i = word.size; omega
        obtain rfl : r = true := by
          rw [← HP.out, isPrefixOf_iff, HL.out]
          have e : word.data.toList.length = word.size := rfl
          rw [e]
          exact ⟨by omega, hz.out ▸ HM.out⟩
        go_wp2
        go_ret
        exact ⟨rfl, m, rfl⟩
end Go.Proofs.Qxb6628830aFmt
