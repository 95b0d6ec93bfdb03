/-
  The walk of '(OAuth).Equal' (8).
-/
import Derived.Test.Qxb6628777aSize
namespace Go.Proofs.Qxb6628777a
open Go.RowKit


/-- Are the two settings the same? -/
def sameB (t1 c1 s1 : ByteArray) (ss1 : List ByteArray) (t2 c2 s2 : ByteArray) (ss2 : List ByteArray) : Bool := decide (t1 = t2 ∧ c1 = c2 ∧ s1 = s2 ∧ ss1 = ss2)

section
variable {t1 c1 s1 t2 c2 s2 : ByteArray} {ss1 ss2 : List ByteArray}
theorem toList_inj {a b : ByteArray} (h : a.toList = b.toList) : a = b := by
  have h2 : a.data.toList = b.data.toList := by simpa [ByteArray.toList_eq] using h
  cases a; cases b; simp at h2; simp [h2]
theorem sameB_t (h : ¬ t1.toList = t2.toList) : sameB t1 c1 s1 ss1 t2 c2 s2 ss2 = false := decide_eq_false fun e => h (by rw [e.1])
theorem sameB_c (h : ¬ c1.toList = c2.toList) : sameB t1 c1 s1 ss1 t2 c2 s2 ss2 = false := decide_eq_false fun e => h (by rw [e.2.1])
theorem sameB_s (h : ¬ s1.toList = s2.toList) : sameB t1 c1 s1 ss1 t2 c2 s2 ss2 = false := decide_eq_false fun e => h (by rw [e.2.2.1])
theorem sameB_n {n1 n2 : Nat} (h1 : ss1.length = n1) (h2 : ss2.length = n2) (h : ¬ n1 = n2) : sameB t1 c1 s1 ss1 t2 c2 s2 ss2 = false := decide_eq_false fun e => h (by rw [← h1, ← h2, e.2.2.2])
end

/-- Two lists that agree at every index below k, so far. -/
def Agree (ss1 ss2 : List ByteArray) (k : Nat) : Prop := ∀ j, j < k → ss1.getD j ByteArray.empty = ss2.getD j ByteArray.empty
theorem agree_zero (ss1 ss2 : List ByteArray) : Agree ss1 ss2 0 := fun _ h => absurd h (Nat.not_lt_zero _)
theorem agree_succ {ss1 ss2 : List ByteArray} {k : Nat} (h : Agree ss1 ss2 k) (e : (ss1.getD k ByteArray.empty).toList = (ss2.getD k ByteArray.empty).toList) : Agree ss1 ss2 (k + 1) := fun j hj => by
  by_cases h1 : j < k
  · exact h j h1
  · have : j = k := by omega
    subst this; exact toList_inj e
theorem agree_all {ss1 ss2 : List ByteArray} {n : Nat} (h1 : ss1.length = n) (h2 : ss2.length = n) (h : Agree ss1 ss2 n) : ss1 = ss2 := by
  apply List.ext_getElem (by omega)
  intro j a b
  have := h j (by omega)
  simpa [List.getD, a, b] using this
section
variable {t1 c1 s1 t2 c2 s2 : ByteArray} {ss1 ss2 : List ByteArray}
theorem sameB_at {k : Nat} (h : ¬ (ss1.getD k ByteArray.empty).toList = (ss2.getD k ByteArray.empty).toList) : sameB t1 c1 s1 ss1 t2 c2 s2 ss2 = false := decide_eq_false fun e => h (by rw [e.2.2.2])
theorem sameB_yes (ht : t1.toList = t2.toList) (hc : c1.toList = c2.toList) (hs : s1.toList = s2.toList) (h : ss1 = ss2) : sameB t1 c1 s1 ss1 t2 c2 s2 ss2 = true :=
  decide_eq_true ⟨toList_inj ht, toList_inj hc, toList_inj hs, h⟩
end

set_option maxHeartbeats 400000 in
theorem equal_any (t1 c1 s1 t2 c2 s2 : ByteArray) (a1 a2 : Option Addr) (n1 k1 n2 k2 : Nat) (ss1 ss2 : List ByteArray) (w : World) (hn : n1 ≤ maxLen) (hr1 : StrRow w a1 n1 ss1) (hr2 : StrRow w a2 n2 ss2) :
    Calls Try.prog 8 #[.agg #[.string t1, .string c1, .string s1, .slice a1 n1 k1], .agg #[.string t2, .string c2, .string s2, .slice a2 n2 k2]] w fun e w' => e = .returned (.bool (sameB t1 c1 s1 ss1 t2 c2 s2 ss2)) ∧ Below w.heap.size w w' := by
  unfold maxLen at hn
  obtain ⟨l1, hr1⟩ := hr1
  obtain ⟨l2, hr2⟩ := hr2
  by_cases he : n1 = n2
  · subst he
    have hne : ((n1 : Int) != (n1 : Int)) = false := by simp
    rcases hr1 with rfl | ⟨b1, off1, rfl, hb1, hc1⟩
    · clear hr2
      have hnil : Hid (ss1 = ss2) := agree_all l1 l2 (agree_zero _ _)
      clear l1 l2
      go_enter Try.func8, Try.ntmps8
      go_wp2
      all_goals try
        go_ret
        refine ⟨?_, ((Below.refl _ _).alloc (Nat.le_refl _) _).alloc (by simp) _⟩
        first | rw [sameB_t ‹_›] | rw [sameB_c ‹_›] | rw [sameB_s ‹_›]
        rfl
      go_loop [38] (fun i => i = .int .i64 0) (fun _ => 0)
      case atStart => rfl
      case round =>
        subst hrel
        go_wp2
        go_ret
        refine ⟨?_, ((Below.refl _ _).alloc (Nat.le_refl _) _).alloc (by simp) _⟩
        rw [sameB_yes ‹t1.toList = t2.toList› ‹c1.toList = c2.toList› ‹s1.toList = s2.toList› hnil.out]
        rfl
    · rcases hr2 with rfl | ⟨b2, off2, rfl, hb2, hc2⟩
      · have hnil : Hid (ss1 = ss2) := agree_all l1 l2 (agree_zero _ _)
        clear l1 l2
        go_enter Try.func8, Try.ntmps8
        go_wp2
        all_goals try
          go_ret
          refine ⟨?_, ((Below.refl _ _).alloc (Nat.le_refl _) _).alloc (by simp) _⟩
          first | rw [sameB_t ‹_›] | rw [sameB_c ‹_›] | rw [sameB_s ‹_›]
          rfl
        go_loop [38] (fun i => i = .int .i64 0) (fun _ => 0)
        case atStart => rfl
        case round =>
          subst hrel
          go_wp2
          go_ret
          refine ⟨?_, ((Below.refl _ _).alloc (Nat.le_refl _) _).alloc (by simp) _⟩
          rw [sameB_yes ‹t1.toList = t2.toList› ‹c1.toList = c2.toList› ‹s1.toList = s2.toList› hnil.out]
          rfl
      · have L1 : Hid (ss1.length = n1) := l1
        have L2 : Hid (ss2.length = n1) := l2
        clear l1 l2
        have HC1 : Hid (∀ j, j < n1 → w.cell? ⟨b1, off1 + j, none⟩ = some (.string (ss1.getD j ByteArray.empty))) := hc1
        have HC2 : Hid (∀ j, j < n1 → w.cell? ⟨b2, off2 + j, none⟩ = some (.string (ss2.getD j ByteArray.empty))) := hc2
        clear hc1 hc2
        go_enter Try.func8, Try.ntmps8
        go_wp2
        all_goals try
          go_ret
          refine ⟨?_, ((Below.refl _ _).alloc (Nat.le_refl _) _).alloc (by simp) _⟩
          first | rw [sameB_t ‹_›] | rw [sameB_c ‹_›] | rw [sameB_s ‹_›]
          rfl
        go_loop [38] (fun i => ∃ k : Nat, k ≤ n1 ∧ Agree ss1 ss2 k ∧ i = .int .i64 k) (fun i => n1 - (intOf i).toNat)
        case atStart => exact ⟨0, Nat.zero_le _, agree_zero _ _, rfl⟩
        case round =>
          obtain ⟨k, hk, hag, rfl⟩ := hrel
          by_cases hlt : k < n1
          · obtain ⟨x1, hx1⟩ : ∃ x, x = ss1.getD k ByteArray.empty := ⟨_, rfl⟩
            obtain ⟨x2, hx2⟩ : ∃ x, x = ss2.getD k ByteArray.empty := ⟨_, rfl⟩
            have g1 := HC1.out k hlt
            have g2 := HC2.out k hlt
            rw [← hx1] at g1
            rw [← hx2] at g2
            have X1 : Hid (x1 = ss1.getD k ByteArray.empty) := hx1
            have X2 : Hid (x2 = ss2.getD k ByteArray.empty) := hx2
            clear hx1 hx2
            go_wp2
            · go_ret
              refine ⟨?_, ((Below.refl _ _).alloc (Nat.le_refl _) _).alloc (by simp) _⟩
              have hd : (!x1.toList == x2.toList) = true := by assumption
              rw [sameB_at (k := k) (by rw [← X1.out, ← X2.out]; simpa using hd)]
              rfl
            · have hd : (!x1.toList == x2.toList) = false := by assumption
              go_round
              case rel => exact ⟨k + 1, by omega, agree_succ hag (by rw [← X1.out, ← X2.out]; simpa using hd), by go_num⟩
              case measure => simp [intOf]; omega
          · have hkn : Hid (k = n1) := by show k = n1; omega
            go_wp2
            go_ret
            refine ⟨?_, ((Below.refl _ _).alloc (Nat.le_refl _) _).alloc (by simp) _⟩
            rw [sameB_yes ‹t1.toList = t2.toList› ‹c1.toList = c2.toList› ‹s1.toList = s2.toList› (agree_all L1.out L2.out (hkn.out ▸ hag))]
            rfl
  · have hne : ((n1 : Int) != (n2 : Int)) = true := by simp; omega
    clear hr1 hr2
    have L1 : Hid (ss1.length = n1) := l1
    have L2 : Hid (ss2.length = n2) := l2
    clear l1 l2
    go_enter Try.func8, Try.ntmps8
    go_wp2
    all_goals
      go_ret
      refine ⟨?_, ((Below.refl _ _).alloc (Nat.le_refl _) _).alloc (by simp) _⟩
      first | rw [sameB_n L1.out L2.out he] | rw [sameB_t ‹_›] | rw [sameB_c ‹_›] | rw [sameB_s ‹_›]
      rfl
end Go.Proofs.Qxb6628777a
