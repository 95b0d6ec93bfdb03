/-
  The walk of 'zzCloneStrings' (7): a fresh copy; nil stays nil.
-/
import Derived.Test.Qxb6628777aEqual
namespace Go.Proofs.Qxb6628777a
open Go.RowKit

theorem Try.info9 : (Try.prog.info? 9).map (fun i => (i.zero, i.size, i.bytes)) = some (some (.string ⟨#[]⟩), 1, 16) := by kernel_rfl

/-- The first k cells hold the first k strings. -/
def Filled (xs : List Value) (ss : List ByteArray) (n k : Nat) : Prop := xs.length = n ∧ ∀ j, j < k → xs[j]? = some (.string (ss.getD j ByteArray.empty))
theorem Filled.zero {xs : List Value} {n : Nat} (h : xs.length = n) (ss : List ByteArray) : Filled xs ss n 0 := ⟨h, fun _ h => absurd h (Nat.not_lt_zero _)⟩
theorem Filled.step {xs : List Value} {ss : List ByteArray} {n k : Nat} {x : ByteArray} (h : Filled xs ss n k) (hk : k < n) (hx : x = ss.getD k ByteArray.empty) : Filled (xs.set k (.string x)) ss n (k + 1) := by
  refine ⟨by simpa using h.1, fun j hj => ?_⟩
  by_cases e : j = k
  · subst e; rw [List.getElem?_set_self (by rw [h.1]; exact hk), hx]
  · rw [List.getElem?_set_ne (by omega)]; exact h.2 j (by omega)

/-- What the copy is: its address, its cells, that they may be written. -/
structure Cloned (w w' : World) (a' : Option Addr) (n : Nat) (ss : List ByteArray) : Prop where
  row : StrRow w' a' n ss
  below : Below w.heap.size w w'
  more : 0 < n → a' = some ⟨w.heap.size, 0, none⟩ ∧ w.heap.size < w'.heap.size ∧ ∀ j, w'.frozen? ⟨w.heap.size, j, none⟩ = false

theorem Cloned.nil {w : World} {ss : List ByteArray} (h : ss.length = 0) : Cloned w w none 0 ss := ⟨⟨h, .inl rfl⟩, Below.refl _ _, fun h => absurd h (by omega)⟩

theorem Cloned.made {w w' : World} {n : Nat} {ss : List ByteArray} {xs : List Value} (h : ss.length = n) (hown : w'.ownsRow w.heap.size 9 1 (.slice (some ⟨w.heap.size, 0, none⟩) n n) n xs) (hf : Filled xs ss n n)
    (hb : Below w.heap.size w w') (hz : w.heap.size < w'.heap.size) : Cloned w w' (some ⟨w.heap.size, 0, none⟩) n ss :=
  ⟨⟨h, .inr ⟨_, 0, rfl, hz, fun j hj => by rw [Nat.zero_add, hown.cellAt j (by omega), hf.2 j hj]⟩⟩, hb, fun _ => ⟨rfl, hz, fun j => hown.frozenAt j⟩⟩

set_option maxHeartbeats 400000 in
theorem clone_nil (ss : List ByteArray) (w : World) (h : ss.length = 0) :
    Calls Try.prog 7 #[.slice none 0 0] w fun e w' => ∃ a', e = .returned (.slice a' 0 0) ∧ Cloned w w' a' 0 ss := by
  have q22 : ∀ (w : World) (a : Option Addr) (n c n' c' : Nat), (binOp .eql 22 (.slice a n c) (.slice none n' c')).run Try.prog w = .ok (.bool a.isNone) w := fun w a n c n' c' => Lib.run_eql_slice_nil w _ _ a n c n' c' Try.underlying22
  go_enter Try.func7, Try.ntmps7
  go_wp2
  go_ret
  exact ⟨none, rfl, Cloned.nil h⟩

theorem own_lt {w : World} {base e size g n cap : Nat} {xs : List Value} (h : w.ownsRow base e size (.slice (some ⟨g, 0, none⟩) n cap) n xs) : g < w.heap.size := by
  rcases h.2 with ⟨h', _⟩ | ⟨g', cap', cur, h', _, hg, _⟩
  · simp at h'
  · simp only [Value.slice.injEq, Option.some.injEq, Addr.mk.injEq, and_true, true_and] at h'
    obtain ⟨rfl, rfl⟩ := h'
    exact (Array.getElem?_eq_some_iff.1 hg).1

set_option maxHeartbeats 400000 in
theorem clone_none (x : Addr) (cap : Nat) (ss : List ByteArray) (w : World) (hl : ss.length = 0) :
    Calls Try.prog 7 #[.slice (some x) 0 cap] w fun e w' => ∃ a', e = .returned (.slice a' 0 0) ∧ Cloned w w' a' 0 ss := by
  obtain ⟨i0, hi, hz0, hz1, hz2⟩ := info_parts Try.info9
  have HL : Hid (ss.length = 0) := hl
  clear hl
  have q22 : ∀ (w : World) (a : Option Addr) (n c n' c' : Nat), (binOp .eql 22 (.slice a n c) (.slice none n' c')).run Try.prog w = .ok (.bool a.isNone) w := fun w a n c n' c' => Lib.run_eql_slice_nil w _ _ a n c n' c' Try.underlying22
  go_enter Try.func7, Try.ntmps7
  go_wp2_with (refine wpList_make_full _ rfl _ _ 22 rfl w.heap.size 9 i0 _ 1 Try.underlying22 hi hz0 hz1 .i64 .i64 (0 : Int) (0 : Int) 0 rfl rfl rfl rfl (by rw [hz2]; omega) (by unfold maxLen; omega) (Nat.le_refl _) ?_)
  intro w1 hown hgrow
  have hbel : Below w.heap.size w w1 := (Below.refl _ _).grown hgrow (Nat.le_refl _) (fun k h => by cases h)
  have hz : w.heap.size < w1.heap.size := own_lt hown
  have HO : Hid (w1.ownsRow w.heap.size 9 1 (.slice (some ⟨w.heap.size, 0, none⟩) 0 0) 0 (madeCells #[.string ⟨#[]⟩] 0).toList) := hown
  clear hown hgrow
  go_wp2
  go_loop [4] (fun i => i = .int .i64 0) (fun _ => 0)
  case atStart => rfl
  case round =>
    subst hrel
    go_wp2
    go_ret
    exact ⟨_, rfl, Cloned.made HL.out HO.out (Filled.zero (by simpa using HO.out.1) ss) hbel hz⟩

set_option maxHeartbeats 400000 in
theorem clone_row (b off n cap : Nat) (ss : List ByteArray) (w : World) (hn : n ≤ 65536) (hl : ss.length = n) (hb : b < w.heap.size) (hc : ∀ j, j < n → w.cell? ⟨b, off + j, none⟩ = some (.string (ss.getD j ByteArray.empty))) :
    Calls Try.prog 7 #[.slice (some ⟨b, off, none⟩) n cap] w fun e w' => ∃ a', e = .returned (.slice a' n n) ∧ Cloned w w' a' n ss := by
  obtain ⟨i0, hi, hz0, hz1, hz2⟩ := info_parts Try.info9
  have HL : Hid (ss.length = n) := hl
  have HC : Hid (∀ j, j < n → w.cell? ⟨b, off + j, none⟩ = some (.string (ss.getD j ByteArray.empty))) := hc
  clear hl hc
  have q22 : ∀ (w : World) (a : Option Addr) (n c n' c' : Nat), (binOp .eql 22 (.slice a n c) (.slice none n' c')).run Try.prog w = .ok (.bool a.isNone) w := fun w a n c n' c' => Lib.run_eql_slice_nil w _ _ a n c n' c' Try.underlying22
  go_enter Try.func7, Try.ntmps7
  go_wp2_with (refine wpList_make_full _ rfl _ _ 22 rfl w.heap.size 9 i0 _ 1 Try.underlying22 hi hz0 hz1 .i64 .i64 (n : Int) (n : Int) n rfl rfl rfl rfl (by rw [hz2]; omega) (by unfold maxLen; omega) (Nat.le_refl _) ?_)
  intro w1 hown hgrow
  have hbel : Below w.heap.size w w1 := (Below.refl _ _).grown hgrow (Nat.le_refl _) (fun k h => by cases h)
  have HO : Hid (w1.ownsRow w.heap.size 9 1 (.slice (some ⟨w.heap.size, 0, none⟩) n n) n (madeCells #[.string ⟨#[]⟩] n).toList) := hown
  clear hown hgrow
  go_wp2
  go_loopw [4] (fun i wr => ∃ (k : Nat) (xs : List Value), k ≤ n ∧ i = .int .i64 k ∧ Hid (wr.ownsRow w.heap.size 9 1 (.slice (some ⟨w.heap.size, 0, none⟩) n n) n xs) ∧ Filled xs ss n k ∧ Below w.heap.size w wr) (fun i _ => n - (intOf i).toNat)
  case atStart => exact ⟨0, _, Nat.zero_le _, rfl, HO, Filled.zero (by simpa using HO.out.1) ss, hbel⟩
  case round =>
    obtain ⟨k, xs, hk, rfl, HX, hfill, hbr⟩ := hrel
    by_cases hlt : k < n
    · obtain ⟨x, hx⟩ : ∃ x, x = ss.getD k ByteArray.empty := ⟨_, rfl⟩
      have g1 : wr.cell? ⟨b, off + k, none⟩ = some (.string x) := by rw [hbr.cell (by exact hb), HC.out k hlt, hx]
      obtain ⟨v, g2⟩ : ∃ v, wr.cell? ⟨w.heap.size, k, none⟩ = some v := by
        rw [HX.out.cellAt k (by omega)]
        exact ⟨xs[k]'(by rw [hfill.1]; exact hlt), List.getElem?_eq_getElem _⟩
      have g3 : wr.frozen? ⟨w.heap.size, k, none⟩ = false := HX.out.frozenAt k
      have hX : Hid (x = ss.getD k ByteArray.empty) := hx
      clear hx
      go_wp2
      go_roundw
      case rel => exact ⟨k + 1, xs.set k (.string x), by omega, by go_num, (HX.out.stored k _).1, hfill.step hlt hX.out, hbr.setCell (Nat.le_refl _) _⟩
      case measure => simp [intOf]; omega
    · have hkn : Hid (k = n) := by show k = n; omega
      go_wp2
      go_ret
      exact ⟨_, rfl, Cloned.made HL.out HX.out (hkn.out ▸ hfill) hbr (own_lt HX.out)⟩

/-- THE CONTRACT: whatever slice of at most 65,536 strings. -/
theorem clone_any (a : Option Addr) (n cap : Nat) (ss : List ByteArray) (w : World) (hn : n ≤ 65536) (hnil : a = none → n = 0 ∧ cap = 0) (hr : StrRow w a n ss) :
    Calls Try.prog 7 #[.slice a n cap] w fun e w' => ∃ a', e = .returned (.slice a' n n) ∧ Cloned w w' a' n ss := by
  obtain ⟨hl, hr⟩ := hr
  cases a with
  | none =>
    obtain ⟨rfl, rfl⟩ := hnil rfl
    exact clone_nil ss w hl
  | some x =>
    rcases hr with rfl | ⟨b, off, hx, hb, hc⟩
    · exact clone_none x cap ss w hl
    · obtain rfl : x = ⟨b, off, none⟩ := by simpa using hx
      exact clone_row b off n cap ss w hn hl hb hc
end Go.Proofs.Qxb6628777a
