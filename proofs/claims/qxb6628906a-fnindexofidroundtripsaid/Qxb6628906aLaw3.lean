/-
  The walk of the first law (3).
-/
import Derived.Test.Qxb6628906aBuild
set_option linter.unusedVariables false
namespace Go.Proofs.Qxb6628906a
open Go.RowKit

theorem Built.below {ss : List ByteArray} {n b : Nat} {w w' : World} (h : Built ss n w b) (hb : Below w.heap.size w w') : Built ss n w' b := by
  obtain ⟨fb, eb, tb, F, E, tab, ex, h1, h2⟩ := h
  exact ⟨fb, eb, tb, F, E, tab, ex, h1.below hb, h2⟩
theorem FirstAt.unique {ss : List ByteArray} {n : Nat} {t : ByteArray} {r q : Int} (h : FirstAt ss n t r) (k : FirstAt ss n t q) : r = q := by
  rcases h with ⟨rfl, h⟩ | ⟨i, rfl, hi, he, hl⟩ <;> rcases k with ⟨rfl, k⟩ | ⟨j, rfl, hj, ke, kl⟩
  · rfl
  · exact absurd ke (h j hj)
  · exact absurd he (k i hi)
  · rcases Nat.lt_trichotomy i j with c | c | c
    · exact absurd he (kl i c)
    · rw [c]
    · exact absurd ke (hl j c)

theorem built_index {ss : List ByteArray} {n b : Nat} {w : World} (h : Built ss n w b) (hn : n ≤ 65536) (a : Option Addr) (cap : Nat) (x : ByteArray) (hx : x.size ≤ 1048576) (hc : x.size ≤ cap) (hr : ByteRow w a x.size (ints x)) :
    Calls Try.prog 8 #[.pointer (some ⟨b, 0, none⟩), .slice a x.size cap] w fun e w' => (∃ (r : Nat) (held : Bool), e = .returned (.tuple #[.int .i64 (r : Int), .bool held]) ∧ (held = true → FirstAt ss n x (r : Int)) ∧ (held = false → r = 0 ∧ ∀ j, j < n → key ss j ≠ x)) ∧ Below w.heap.size w w' := by
  obtain ⟨fb, eb, tb, F, E, tab, ex, hs, hsp, hE, hts, htl, hnt, hf1, hf2, hF, hI, hV⟩ := h
  obtain ⟨p0, hp0, hz0⟩ := hI.empty hnt
  obtain ⟨p, J, hp, hsl⟩ := slot_exists ss tab tab.length (H x / 65536) x p0 hp0 hz0
  refine (index_any b fb eb tb F (txt ss n) E tab ss a cap x ex p J w hts (by omega) (by omega) hx hc hf1 (by omega) hF hs hsp hr (fun q => by rw [hE]; exact hI.le q) hp hsl).mono ?_
  rintro e w' ⟨⟨r, held, rfl, h1, h2⟩, hb⟩
  refine ⟨⟨r, held, rfl, fun hh => ?_, fun hh => ?_⟩, hb⟩
  · have h3 := h1 hh
    have h4 := Inv.hit (st := fun x => H x / 65536) (x := x) hI hsl (by omega)
    rw [h3, Nat.add_sub_cancel] at h4
    exact .inr ⟨r, rfl, h4.1, h4.2.1, h4.2.2⟩
  · obtain ⟨h3, h4⟩ := h2 hh
    refine ⟨h3, fun j hj hjx => ?_⟩
    have h5 := hV j hj
    rw [hjx] at h5
    rcases h4 with h4 | h4 | h4
    · exact h4 h5.1
    · exact h4 h5.2
    · exact Inv.miss (st := fun x => H x / 65536) (x := x) hI hsl h4 j hj hjx
theorem built_id {ss : List ByteArray} {n b : Nat} {w : World} (h : Built ss n w b) (hn : n ≤ 65536) (i : Nat) (hi : i < n) :
    Calls Try.prog 10 #[.pointer (some ⟨b, 0, none⟩), .int .i64 (i : Int)] w fun e w' => e = .returned (.string (key ss i)) ∧ ∃ m, w' = w.drewN m := by
  obtain ⟨fb, eb, tb, F, E, tab, ex, hs, hsp, hE, _⟩ := h
  exact id_any b fb eb tb F (txt ss n) E tab ss w i (by omega) (by omega) hs hsp

set_option maxHeartbeats 1000000 in
set_option maxRecDepth 100000 in
theorem law3_walk (a : Option Addr) (n cap : Nat) (ss : List ByteArray) (a2 : Option Addr) (cap2 : Nat) (x : ByteArray) (w : World) (hn : n ≤ maxLen) (hn2 : x.size ≤ maxLen) (hr : StrRow w a n ss) (hr2 : ByteRow w a2 x.size (ints x)) (hc2 : x.size ≤ cap2) :
    Calls Try.prog 3 #[.slice a n cap, .slice a2 x.size cap2] w fun e w' => e = .returned (.bool true) ∧ Below w.heap.size w w' := by
  have HR : Hid (StrRow w a n ss) := hr
  have HR2 : Hid (ByteRow w a2 x.size (ints x)) := hr2
  have HB5 : Hid (Calls Try.prog 5 #[.slice a n cap, .slice a2 x.size cap2] w fun e w' => RetOK n ss e ∧ w' = w) := bytes5 a n cap ss a2 x.size cap2 hn2 w hn hr
  unfold maxLen at hn hn2
  clear hr hr2
  go_enter Try.func3, Try.ntmps3
  go_wp2_with fail
  refine HB5.out.mono ?_
  rintro e w' ⟨⟨r, rfl, hok⟩, hw⟩
  rw [hw]
  clear hw w'
  cases r with
  | false =>
    go_wp2
    go_ret
    exact ⟨rfl, Below.refl _ _⟩
  | true =>
  obtain ⟨_, hsz⟩ := hok rfl
  have HSZ : Hid (∀ j, j < n → (key ss j).size ≤ 1048576) := hsz
  clear hok hsz
  by_cases hn1 : 65536 < n
  · have t1 : decide ((65536 : Int) < (n : Int)) = true := by simp; omega
    go_wp2
    go_ret
    exact ⟨rfl, Below.refl _ _⟩
  have t1 : decide ((65536 : Int) < (n : Int)) = false := by simp; omega
  by_cases hx1 : 1048576 < x.size
  · have t2 : decide ((1048576 : Int) < (x.size : Int)) = true := by simp; omega
    go_wp2
    go_ret
    exact ⟨rfl, Below.refl _ _⟩
  have t2 : decide ((1048576 : Int) < (x.size : Int)) = false := by simp; omega
  go_wp2
  go_loop [5, 6] (fun t i => ∃ (k z : Nat), k ≤ n ∧ z ≤ 1048576 ∧ t = .int .i64 (z : Int) ∧ i = .int .i64 (k : Int) ∧ Hid (tot ss k + 16 * k ≤ z)) (fun _ i => n - (intOf i).toNat)
  case atStart => exact ⟨0, x.size, by omega, by omega, rfl, rfl, by show 0 + 16 * 0 ≤ _; omega⟩
  case round =>
  obtain ⟨k, z, hk, hz, rfl, rfl, HZ⟩ := hrel
  by_cases hlt : k < n
  · obtain ⟨b, off, ha, hb, hc⟩ := HR.out.2.resolve_left (by omega)
    subst ha
    obtain ⟨s, hs⟩ : ∃ s, s = key ss k := ⟨_, rfl⟩
    have hcell : w.cell? ⟨b, off + k, none⟩ = some (.string s) := by rw [hs]; exact hc k hlt
    have hss : s.size ≤ 1048576 := by rw [hs]; exact HSZ.out k hlt
    have HN : Hid (tot ss (k + 1) + 16 * (k + 1) ≤ z + (s.size + 16)) := by show _ ≤ _; rw [tot, ← hs]; have := HZ.out; omega
    clear hs hc
    by_cases hbig : 1048576 < z + (s.size + 16)
    · have t3 : decide ((1048576 : Int) < (z : Int) + ((s.size : Int) + 16)) = true := by simp; omega
      go_wp2
      go_ret
      exact ⟨rfl, Below.refl _ _⟩
    · have t3 : decide ((1048576 : Int) < (z : Int) + ((s.size : Int) + 16)) = false := by simp; omega
      go_wp2
      go_round
      case rel => exact ⟨k + 1, z + (s.size + 16), by omega, by omega, congrArg (Value.int .i64) (by omega), congrArg (Value.int .i64) (by omega), HN⟩
      case measure => simp [intOf]; omega
  have hkn : n = k := by omega
  subst hkn
  have HT : Hid (tot ss n ≤ 1048576) := by show _ ≤ _; have := HZ.out; omega
  clear hlt hk HZ
  have hcv : (convert 23 9 (.slice a2 x.size cap2)).run Try.prog w = .ok (.string x) w := conv_key HR2.out cap2
  go_wp2_with fail
  refine (first_any a n cap ss x w (by omega) HR.out).mono ?_
  rintro e w' ⟨⟨r0, rfl, hf0⟩, hw⟩
  rw [hw]
  clear hw w'
  have HF0 : Hid (FirstAt ss n x r0) := hf0
  have hr0a : -1 ≤ r0 := by rcases hf0 with ⟨h, _⟩ | ⟨k, h, _⟩ <;> omega
  have hr0b : r0 ≤ 65536 := by rcases hf0 with ⟨h, _⟩ | ⟨k, h, hk, _⟩ <;> omega
  clear hf0 hcv
  go_wp2_with fail
  refine (build_any a n cap ss w (by omega) HT.out HSZ.out HR.out).mono ?_
  rintro e w1 ⟨⟨b, rfl, hbu⟩, hb1⟩
  have HBU : Hid (Built ss n w1 b) := hbu
  have B1 : Hid (Below w.heap.size w w1) := hb1
  have HR3 : Hid (ByteRow w1 a2 x.size (ints x)) := by
    refine ⟨HR2.out.1, ?_⟩
    rcases HR2.out.2 with h0 | ⟨g, off, rfl, hlt, hc⟩
    · exact .inl h0
    · exact .inr ⟨g, off, rfl, Nat.lt_of_lt_of_le hlt hb1.size, fun j hj => by rw [hb1.cell (p := ⟨g, off + j, none⟩) hlt]; exact hc j hj⟩
  clear hbu hb1
  go_wp2_with fail
  refine (built_index HBU.out (by omega) a2 cap2 x (by omega) hc2 HR3.out).mono ?_
  rintro e w2 ⟨⟨r, held, rfl, hy, hno⟩, hb2⟩
  have B2 : Hid (Below w.heap.size w w2) := B1.out.trans (hb2.mono B1.out.size)
  clear hb2
  cases held with
  | true =>
    have hr : r0 = (r : Int) := HF0.out.unique (hy rfl)
    have t4 : decide (r0 < 0) = false := by simp; omega
    have t5 : ((r : Int) == r0) = true := by simp; exact hr.symm
    clear hr hy hno
    go_wp2
    go_ret
    exact ⟨by first | rfl | simp, B2.out⟩
  | false =>
    obtain ⟨hr, hn3⟩ := hno rfl
    have hr0 : r0 = -1 := HF0.out.unique (.inl ⟨rfl, hn3⟩)
    subst hr
    subst hr0
    clear hy hno hn3
    go_wp2
    go_ret
    exact ⟨by first | rfl | simp, B2.out⟩
end Go.Proofs.Qxb6628906a
