/-
  The walk of the second law (4).
-/
import Derived.Test.Qxb6628777aLaw1
namespace Go.Proofs.Qxb6628777a
open Go.RowKit

theorem beq_eq {a b : ByteArray} {r : Bool} (h : (a.toList == b.toList) = r) : (a = b) = (r = true) := by
  cases r
  · simp at h; simp; intro e; exact h (by rw [e])
  · simp at h; simp; exact toList_inj h
section
variable {t c s v y : ByteArray} {ss : List ByteArray} {r : Bool}
theorem same0 (h : (v.toList == t.toList) = r) : sameB t c s ss v c s ss = r ∧ sameB v c s ss t c s ss = r := by
  have e := beq_eq h
  have e' : (t = v) = (r = true) := by rw [← e]; exact propext eq_comm
  simp [sameB, e, e']
theorem same1 (h : (v.toList == c.toList) = r) : sameB t c s ss t v s ss = r ∧ sameB t v s ss t c s ss = r := by
  have e := beq_eq h
  have e' : (c = v) = (r = true) := by rw [← e]; exact propext eq_comm
  simp [sameB, e, e']
theorem same2 (h : (v.toList == s.toList) = r) : sameB t c s ss t c v ss = r ∧ sameB t c v ss t c s ss = r := by
  have e := beq_eq h
  have e' : (s = v) = (r = true) := by rw [← e]; exact propext eq_comm
  simp [sameB, e, e']
theorem same3 {q n : Nat} (hl : ss.length = n) (hq : q < n) (hy : y = ss.getD q ByteArray.empty) (h : (v.toList == y.toList) = r) :
    sameB t c s ss t c s (ss.set q v) = r ∧ sameB t c s (ss.set q v) t c s ss = r := by
  have e := beq_eq h
  have e1 : (ss.set q v = ss) = (r = true) := by
    rw [← e]
    apply propext
    constructor
    · intro h1
      have h2 : (ss.set q v).getD q ByteArray.empty = ss.getD q ByteArray.empty := by rw [h1]
      rw [← hy] at h2
      simpa [List.getD, hl, hq] using h2
    · intro h1
      subst h1
      apply List.ext_getElem (by simp)
      intro i h1 h2
      rw [List.getElem_set]
      split
      · subst_vars; simp [List.getD, hq]
      · rfl
  have e2 : (ss = ss.set q v) = (r = true) := by rw [← e1]; exact propext eq_comm
  simp [sameB, e1, e2]
end

set_option maxHeartbeats 1000000 in
theorem law2_big (t c s v : ByteArray) (a : Option Addr) (n cap : Nat) (f p : Int) (ss : List ByteArray) (w : World) (hn : n ≤ maxLen) (hnil : a = none → n = 0 ∧ cap = 0) (hr : StrRow w a n ss) (h3 : 3 < f) :
    Calls Try.prog 4 #[.string t, .string c, .string s, .slice a n cap, .int .u8 f, .int .i64 p, .string v] w fun e w' => e = .returned (.bool true) ∧ Below w.heap.size w w' := by
  have HR : Hid (StrRow w a n ss) := hr
  have HN : Hid (a = none → n = 0 ∧ cap = 0) := hnil
  have HM : Hid (n ≤ maxLen) := hn
  have HL : Hid (ss.length = n) := hr.1
  clear hnil hn hr
  go_enter Try.func4, Try.ntmps4
  go_wp2_with fail
  refine (bytes2 t c s v _ n cap ss f p w HM.out HR.out).mono ?_
  rintro e w' ⟨⟨r, rfl⟩, rfl⟩
  cases r with
  | false =>
    go_wp2
    go_ret
    exact ⟨rfl, Below.refl _ _⟩
  | true =>
  go_wp2_with fail
  refine (sizeOK t c s v _ n cap ss _ HM.out HR.out).mono ?_
  rintro e w' ⟨⟨r, rfl, hfit⟩, rfl⟩
  cases r with
  | false =>
    go_wp2
    go_ret
    exact ⟨rfl, Below.refl _ _⟩
  | true =>
  have hn : n ≤ 65536 := hfit rfl
  clear hfit
  go_wp2
  go_ret
  exact ⟨rfl, Below.refl _ _⟩

set_option maxHeartbeats 1000000 in
theorem law2_f0 (t c s v : ByteArray) (a : Option Addr) (n cap : Nat) (p : Int) (r : Bool) (ss : List ByteArray) (w : World) (hn : n ≤ maxLen) (hnil : a = none → n = 0 ∧ cap = 0) (hr : StrRow w a n ss) (hw : (v.toList == t.toList) = r) :
    Calls Try.prog 4 #[.string t, .string c, .string s, .slice a n cap, .int .u8 0, .int .i64 p, .string v] w fun e w' => e = .returned (.bool true) ∧ Below w.heap.size w w' := by
  have HR : Hid (StrRow w a n ss) := hr
  have HN : Hid (a = none → n = 0 ∧ cap = 0) := hnil
  have HM : Hid (n ≤ maxLen) := hn
  have HL : Hid (ss.length = n) := hr.1
  clear hnil hn hr
  go_enter Try.func4, Try.ntmps4
  go_wp2_with fail
  refine (bytes2 t c s v _ n cap ss 0 p w HM.out HR.out).mono ?_
  rintro e w' ⟨⟨r, rfl⟩, rfl⟩
  cases r with
  | false =>
    go_wp2
    go_ret
    exact ⟨rfl, Below.refl _ _⟩
  | true =>
  go_wp2_with fail
  refine (sizeOK t c s v _ n cap ss _ HM.out HR.out).mono ?_
  rintro e w' ⟨⟨r, rfl, hfit⟩, rfl⟩
  cases r with
  | false =>
    go_wp2
    go_ret
    exact ⟨rfl, Below.refl _ _⟩
  | true =>
  have hn : n ≤ 65536 := hfit rfl
  clear hfit
  have s1 := (same0 (t := t) (c := c) (s := s) (v := v) (ss := ss) hw).1
  have s2 := (same0 (t := t) (c := c) (s := s) (v := v) (ss := ss) hw).2
  go_wp2_with fail
  refine (clone_any _ n cap ss _ hn HN.out (HR.out.alloc _)).mono ?_
  rintro e w1 ⟨a', rfl, hcl⟩
  have HCL : Hid (Cloned (w'.alloc (.cells #[.string t, .string c, .string s, .slice a n cap] 26)) w1 a' n ss) := hcl
  have HB1 : Hid (Below w'.heap.size w' w1) := ((Below.refl _ _).alloc (Nat.le_refl _) _).trans (hcl.below.mono (by simp))
  have HO1 : Hid (boxAt w1 w'.heap.size t c s (.slice a n cap)) := (boxAt.new w' _ t c s _ rfl).step hcl.below
  have HRA : Hid (StrRow w1 a n ss) := (HR.out.alloc _).below hcl.below
  have HRC : Hid (StrRow w1 a' n ss) := hcl.row
  clear hcl
  have o0 := fun o => (HO1.out.alloc o).1
  have o1 := fun o => (HO1.out.alloc o).2.1
  have o2 := fun o => (HO1.out.alloc o).2.2.1
  have o3 := fun o => (HO1.out.alloc o).2.2.2.1
  go_wp2_with fail
  refine (equal_any t c s v c s _ _ n cap n n ss ss _ HM.out (HRA.out.alloc _) (HRC.out.alloc _)).mono ?_
  rintro e u1 ⟨rfl, hu⟩
  have HB2 : Hid (Below w'.heap.size w' u1) := (HB1.out.alloc HB1.out.size _).trans (hu.mono (by have := HB1.out.size; simp; omega))
  obtain ⟨a0, a1, a2, a3, al⟩ := (HO1.out.alloc _).step hu
  obtain ⟨b0, b1, b2, b3, bl⟩ := (boxAt.new w1 _ v c s (.slice a' n n) rfl).step hu
  have HRA2 : Hid (StrRow u1 a n ss) := (HRA.out.alloc _).below hu
  have HRC2 : Hid (StrRow u1 a' n ss) := (HRC.out.alloc _).below hu
  clear hu o0 o1 o2 o3
  go_wp2_with fail
  refine (equal_any v c s t c s _ _ n n n cap ss ss _ HM.out HRC2.out HRA2.out).mono ?_
  rintro e u2 ⟨rfl, hu⟩
  have HB3 : Hid (Below w'.heap.size w' u2) := HB2.out.trans (hu.mono HB2.out.size)
  clear hu
  go_wp2
  go_ret
  exact ⟨by simp, HB3.out⟩

set_option maxHeartbeats 1000000 in
theorem law2_f1 (t c s v : ByteArray) (a : Option Addr) (n cap : Nat) (p : Int) (r : Bool) (ss : List ByteArray) (w : World) (hn : n ≤ maxLen) (hnil : a = none → n = 0 ∧ cap = 0) (hr : StrRow w a n ss) (hw : (v.toList == c.toList) = r) :
    Calls Try.prog 4 #[.string t, .string c, .string s, .slice a n cap, .int .u8 1, .int .i64 p, .string v] w fun e w' => e = .returned (.bool true) ∧ Below w.heap.size w w' := by
  have HR : Hid (StrRow w a n ss) := hr
  have HN : Hid (a = none → n = 0 ∧ cap = 0) := hnil
  have HM : Hid (n ≤ maxLen) := hn
  have HL : Hid (ss.length = n) := hr.1
  clear hnil hn hr
  go_enter Try.func4, Try.ntmps4
  go_wp2_with fail
  refine (bytes2 t c s v _ n cap ss 1 p w HM.out HR.out).mono ?_
  rintro e w' ⟨⟨r, rfl⟩, rfl⟩
  cases r with
  | false =>
    go_wp2
    go_ret
    exact ⟨rfl, Below.refl _ _⟩
  | true =>
  go_wp2_with fail
  refine (sizeOK t c s v _ n cap ss _ HM.out HR.out).mono ?_
  rintro e w' ⟨⟨r, rfl, hfit⟩, rfl⟩
  cases r with
  | false =>
    go_wp2
    go_ret
    exact ⟨rfl, Below.refl _ _⟩
  | true =>
  have hn : n ≤ 65536 := hfit rfl
  clear hfit
  have s1 := (same1 (t := t) (c := c) (s := s) (v := v) (ss := ss) hw).1
  have s2 := (same1 (t := t) (c := c) (s := s) (v := v) (ss := ss) hw).2
  go_wp2_with fail
  refine (clone_any _ n cap ss _ hn HN.out (HR.out.alloc _)).mono ?_
  rintro e w1 ⟨a', rfl, hcl⟩
  have HCL : Hid (Cloned (w'.alloc (.cells #[.string t, .string c, .string s, .slice a n cap] 26)) w1 a' n ss) := hcl
  have HB1 : Hid (Below w'.heap.size w' w1) := ((Below.refl _ _).alloc (Nat.le_refl _) _).trans (hcl.below.mono (by simp))
  have HO1 : Hid (boxAt w1 w'.heap.size t c s (.slice a n cap)) := (boxAt.new w' _ t c s _ rfl).step hcl.below
  have HRA : Hid (StrRow w1 a n ss) := (HR.out.alloc _).below hcl.below
  have HRC : Hid (StrRow w1 a' n ss) := hcl.row
  clear hcl
  have o0 := fun o => (HO1.out.alloc o).1
  have o1 := fun o => (HO1.out.alloc o).2.1
  have o2 := fun o => (HO1.out.alloc o).2.2.1
  have o3 := fun o => (HO1.out.alloc o).2.2.2.1
  go_wp2_with fail
  refine (equal_any t c s t v s _ _ n cap n n ss ss _ HM.out (HRA.out.alloc _) (HRC.out.alloc _)).mono ?_
  rintro e u1 ⟨rfl, hu⟩
  have HB2 : Hid (Below w'.heap.size w' u1) := (HB1.out.alloc HB1.out.size _).trans (hu.mono (by have := HB1.out.size; simp; omega))
  obtain ⟨a0, a1, a2, a3, al⟩ := (HO1.out.alloc _).step hu
  obtain ⟨b0, b1, b2, b3, bl⟩ := (boxAt.new w1 _ t v s (.slice a' n n) rfl).step hu
  have HRA2 : Hid (StrRow u1 a n ss) := (HRA.out.alloc _).below hu
  have HRC2 : Hid (StrRow u1 a' n ss) := (HRC.out.alloc _).below hu
  clear hu o0 o1 o2 o3
  go_wp2_with fail
  refine (equal_any t v s t c s _ _ n n n cap ss ss _ HM.out HRC2.out HRA2.out).mono ?_
  rintro e u2 ⟨rfl, hu⟩
  have HB3 : Hid (Below w'.heap.size w' u2) := HB2.out.trans (hu.mono HB2.out.size)
  clear hu
  go_wp2
  go_ret
  exact ⟨by simp, HB3.out⟩

set_option maxHeartbeats 1000000 in
theorem law2_f2 (t c s v : ByteArray) (a : Option Addr) (n cap : Nat) (p : Int) (r : Bool) (ss : List ByteArray) (w : World) (hn : n ≤ maxLen) (hnil : a = none → n = 0 ∧ cap = 0) (hr : StrRow w a n ss) (hw : (v.toList == s.toList) = r) :
    Calls Try.prog 4 #[.string t, .string c, .string s, .slice a n cap, .int .u8 2, .int .i64 p, .string v] w fun e w' => e = .returned (.bool true) ∧ Below w.heap.size w w' := by
  have HR : Hid (StrRow w a n ss) := hr
  have HN : Hid (a = none → n = 0 ∧ cap = 0) := hnil
  have HM : Hid (n ≤ maxLen) := hn
  have HL : Hid (ss.length = n) := hr.1
  clear hnil hn hr
  go_enter Try.func4, Try.ntmps4
  go_wp2_with fail
  refine (bytes2 t c s v _ n cap ss 2 p w HM.out HR.out).mono ?_
  rintro e w' ⟨⟨r, rfl⟩, rfl⟩
  cases r with
  | false =>
    go_wp2
    go_ret
    exact ⟨rfl, Below.refl _ _⟩
  | true =>
  go_wp2_with fail
  refine (sizeOK t c s v _ n cap ss _ HM.out HR.out).mono ?_
  rintro e w' ⟨⟨r, rfl, hfit⟩, rfl⟩
  cases r with
  | false =>
    go_wp2
    go_ret
    exact ⟨rfl, Below.refl _ _⟩
  | true =>
  have hn : n ≤ 65536 := hfit rfl
  clear hfit
  have s1 := (same2 (t := t) (c := c) (s := s) (v := v) (ss := ss) hw).1
  have s2 := (same2 (t := t) (c := c) (s := s) (v := v) (ss := ss) hw).2
  go_wp2_with fail
  refine (clone_any _ n cap ss _ hn HN.out (HR.out.alloc _)).mono ?_
  rintro e w1 ⟨a', rfl, hcl⟩
  have HCL : Hid (Cloned (w'.alloc (.cells #[.string t, .string c, .string s, .slice a n cap] 26)) w1 a' n ss) := hcl
  have HB1 : Hid (Below w'.heap.size w' w1) := ((Below.refl _ _).alloc (Nat.le_refl _) _).trans (hcl.below.mono (by simp))
  have HO1 : Hid (boxAt w1 w'.heap.size t c s (.slice a n cap)) := (boxAt.new w' _ t c s _ rfl).step hcl.below
  have HRA : Hid (StrRow w1 a n ss) := (HR.out.alloc _).below hcl.below
  have HRC : Hid (StrRow w1 a' n ss) := hcl.row
  clear hcl
  have o0 := fun o => (HO1.out.alloc o).1
  have o1 := fun o => (HO1.out.alloc o).2.1
  have o2 := fun o => (HO1.out.alloc o).2.2.1
  have o3 := fun o => (HO1.out.alloc o).2.2.2.1
  go_wp2_with fail
  refine (equal_any t c s t c v _ _ n cap n n ss ss _ HM.out (HRA.out.alloc _) (HRC.out.alloc _)).mono ?_
  rintro e u1 ⟨rfl, hu⟩
  have HB2 : Hid (Below w'.heap.size w' u1) := (HB1.out.alloc HB1.out.size _).trans (hu.mono (by have := HB1.out.size; simp; omega))
  obtain ⟨a0, a1, a2, a3, al⟩ := (HO1.out.alloc _).step hu
  obtain ⟨b0, b1, b2, b3, bl⟩ := (boxAt.new w1 _ t c v (.slice a' n n) rfl).step hu
  have HRA2 : Hid (StrRow u1 a n ss) := (HRA.out.alloc _).below hu
  have HRC2 : Hid (StrRow u1 a' n ss) := (HRC.out.alloc _).below hu
  clear hu o0 o1 o2 o3
  go_wp2_with fail
  refine (equal_any t c v t c s _ _ n n n cap ss ss _ HM.out HRC2.out HRA2.out).mono ?_
  rintro e u2 ⟨rfl, hu⟩
  have HB3 : Hid (Below w'.heap.size w' u2) := HB2.out.trans (hu.mono HB2.out.size)
  clear hu
  go_wp2
  go_ret
  exact ⟨by simp, HB3.out⟩

set_option maxHeartbeats 1000000 in
theorem law2_f3_out (t c s v : ByteArray) (a : Option Addr) (n cap : Nat) (p : Int) (ss : List ByteArray) (w : World) (hn : n ≤ maxLen) (hnil : a = none → n = 0 ∧ cap = 0) (hr : StrRow w a n ss) (hp : p < 0 ∨ (n : Int) ≤ p) :
    Calls Try.prog 4 #[.string t, .string c, .string s, .slice a n cap, .int .u8 3, .int .i64 p, .string v] w fun e w' => e = .returned (.bool true) ∧ Below w.heap.size w w' := by
  have HR : Hid (StrRow w a n ss) := hr
  have HN : Hid (a = none → n = 0 ∧ cap = 0) := hnil
  have HM : Hid (n ≤ maxLen) := hn
  have HL : Hid (ss.length = n) := hr.1
  clear hnil hn hr
  go_enter Try.func4, Try.ntmps4
  go_wp2_with fail
  refine (bytes2 t c s v _ n cap ss 3 p w HM.out HR.out).mono ?_
  rintro e w' ⟨⟨r, rfl⟩, rfl⟩
  cases r with
  | false =>
    go_wp2
    go_ret
    exact ⟨rfl, Below.refl _ _⟩
  | true =>
  go_wp2_with fail
  refine (sizeOK t c s v _ n cap ss _ HM.out HR.out).mono ?_
  rintro e w' ⟨⟨r, rfl, hfit⟩, rfl⟩
  cases r with
  | false =>
    go_wp2
    go_ret
    exact ⟨rfl, Below.refl _ _⟩
  | true =>
  have hn : n ≤ 65536 := hfit rfl
  clear hfit
  rcases hp with hp | hp
  · go_wp2
    go_ret
    exact ⟨rfl, Below.refl _ _⟩
  · by_cases h0 : p < 0
    · go_wp2
      go_ret
      exact ⟨rfl, Below.refl _ _⟩
    · go_wp2
      go_ret
      exact ⟨rfl, Below.refl _ _⟩

theorem StrRow.setOther {w : World} {a : Option Addr} {n : Nat} {ss : List ByteArray} (h : StrRow w a n ss) {g q : Nat} {u : Value} (hne : ∀ b off, a = some ⟨b, off, none⟩ → b ≠ g) : StrRow (w.setCell ⟨g, q, none⟩ u) a n ss := by
  refine ⟨h.1, ?_⟩
  rcases h.2 with h | ⟨b, off, rfl, hlt, hc⟩
  · exact .inl h
  · refine .inr ⟨b, off, rfl, by simp [World.setCell]; exact hlt, fun j hj => ?_⟩
    have := hne b off rfl
    rw [World.cell?_setCell_other (h := by intro e; exact this (congrArg Addr.block e).symm)]
    exact hc j hj
theorem boxAt.setOther {W : World} {b : Nat} {t c s : ByteArray} {v : Value} (h : boxAt W b t c s v) {g q : Nat} {u : Value} (hne : b ≠ g) : boxAt (W.setCell ⟨g, q, none⟩ u) b t c s v := by
  obtain ⟨h0, h1, h2, h3, hlt⟩ := h
  refine ⟨?_, ?_, ?_, ?_, by simp [World.setCell]; exact hlt⟩ <;> rw [World.cell?_setCell_other (h := by intro e; exact hne (congrArg Addr.block e).symm)] <;> assumption
theorem StrRow.set {w : World} {b n q : Nat} {ss : List ByteArray} {v : ByteArray} (h : StrRow w (some ⟨b, 0, none⟩) n ss) (hq : q < n) : StrRow (w.setCell ⟨b, q, none⟩ (.string v)) (some ⟨b, 0, none⟩) n (ss.set q v) := by
  refine ⟨by simpa using h.1, ?_⟩
  rcases h.2 with h0 | ⟨b', off, e, hlt, hc⟩
  · omega
  · simp only [Option.some.injEq, Addr.mk.injEq, and_true] at e
    obtain ⟨rfl, rfl⟩ := e
    refine .inr ⟨b, 0, rfl, by simp [World.setCell]; exact hlt, fun j hj => ?_⟩
    have hj' := hc j hj
    simp only [Nat.zero_add] at hj' ⊢
    by_cases e : j = q
    · subst e
      rw [World.cell?_setCell_same (h := hj')]
      simp [List.getD, h.1, hq]
    · rw [World.cell?_setCell_other (h := by intro e2; exact e (congrArg Addr.off e2).symm)]
      rw [hj']
      simp [List.getD, Ne.symm e]

set_option maxHeartbeats 1000000 in
theorem law2_f3 (t c s v : ByteArray) (b off n cap : Nat) (q : Nat) (y : ByteArray) (r : Bool) (ss : List ByteArray) (w : World) (hn : n ≤ maxLen) (hnil : (some ⟨b, off, none⟩ : Option Addr) = none → n = 0 ∧ cap = 0) (hr : StrRow w (some ⟨b, off, none⟩) n ss) (hb : b < w.heap.size) (hc : w.cell? ⟨b, off + q, none⟩ = some (.string y)) (hq : q < n) (hy : y = ss.getD q ByteArray.empty) (hw : (v.toList == y.toList) = r) :
    Calls Try.prog 4 #[.string t, .string c, .string s, .slice (some ⟨b, off, none⟩) n cap, .int .u8 3, .int .i64 (q : Int), .string v] w fun e w' => e = .returned (.bool true) ∧ Below w.heap.size w w' := by
  have s1 := (same3 (t := t) (c := c) (s := s) hr.1 hq hy hw).1
  have s2 := (same3 (t := t) (c := c) (s := s) hr.1 hq hy hw).2
  clear hy
  have HR : Hid (StrRow w (some ⟨b, off, none⟩) n ss) := hr
  have HN : Hid ((some ⟨b, off, none⟩ : Option Addr) = none → n = 0 ∧ cap = 0) := hnil
  have HM : Hid (n ≤ maxLen) := hn
  have HL : Hid (ss.length = n) := hr.1
  clear hnil hn hr
  go_enter Try.func4, Try.ntmps4
  go_wp2_with fail
  refine (bytes2 t c s v _ n cap ss 3 q w HM.out HR.out).mono ?_
  rintro e w' ⟨⟨r, rfl⟩, rfl⟩
  cases r with
  | false =>
    go_wp2
    go_ret
    exact ⟨rfl, Below.refl _ _⟩
  | true =>
  go_wp2_with fail
  refine (sizeOK t c s v _ n cap ss _ HM.out HR.out).mono ?_
  rintro e w' ⟨⟨r, rfl, hfit⟩, rfl⟩
  cases r with
  | false =>
    go_wp2
    go_ret
    exact ⟨rfl, Below.refl _ _⟩
  | true =>
  have hn : n ≤ 65536 := hfit rfl
  clear hfit
  have hd0 : decide ((q : Int) < 0) = false := by simp
  have hd1 : decide ((n : Int) ≤ (q : Int)) = false := by simp; omega
  go_wp2_with fail
  refine (clone_any _ n cap ss _ hn HN.out (HR.out.alloc _)).mono ?_
  rintro e w1 ⟨a', rfl, hcl⟩
  have HB1 : Hid (Below w'.heap.size w' w1) := ((Below.refl _ _).alloc (Nat.le_refl _) _).trans (hcl.below.mono (by simp))
  have HO1 : Hid (boxAt w1 w'.heap.size t c s (.slice (some ⟨b, off, none⟩) n cap)) := (boxAt.new w' _ t c s _ rfl).step hcl.below
  have HRA : Hid (StrRow w1 (some ⟨b, off, none⟩) n ss) := (HR.out.alloc _).below hcl.below
  have hal : (w'.alloc (.cells #[.string t, .string c, .string s, .slice (some ⟨b, off, none⟩) n cap] 26)).heap.size = w'.heap.size + 1 := by simp
  have hmore := hcl.more (by omega)
  rw [hal] at hmore
  obtain ⟨ha', hg, hfr⟩ := hmore
  subst ha'
  have HRC : Hid (StrRow w1 (some ⟨w'.heap.size + 1, 0, none⟩) n ss) := hcl.row
  have hfq := hfr q
  obtain ⟨z, hcq⟩ : ∃ z, w1.cell? ⟨w'.heap.size + 1, q, none⟩ = some z := by
    rcases HRC.out.2 with h0 | ⟨b', off', e, hlt, hcc⟩
    · omega
    · simp only [Option.some.injEq, Addr.mk.injEq, and_true] at e
      obtain ⟨rfl, rfl⟩ := e
      have := hcc q hq
      rw [Nat.zero_add] at this
      exact ⟨_, this⟩
  have hcb : w1.cell? ⟨b, off + q, none⟩ = some (.string y) := by rw [HB1.out.cell (by exact hb)]; exact hc
  have hbs : b < w1.heap.size := Nat.lt_of_lt_of_le hb HB1.out.size
  clear hcl hal hfr
  have HO2 : Hid (boxAt (w1.setCell ⟨w'.heap.size + 1, q, none⟩ (.string v)) w'.heap.size t c s (.slice (some ⟨b, off, none⟩) n cap)) := HO1.out.setOther (by omega)
  have HRA2 : Hid (StrRow (w1.setCell ⟨w'.heap.size + 1, q, none⟩ (.string v)) (some ⟨b, off, none⟩) n ss) := HRA.out.setOther (fun b' off' e => by simp only [Option.some.injEq, Addr.mk.injEq, and_true] at e; omega)
  have HRC2 : Hid (StrRow (w1.setCell ⟨w'.heap.size + 1, q, none⟩ (.string v)) (some ⟨w'.heap.size + 1, 0, none⟩) n (ss.set q v)) := HRC.out.set hq
  have HB2 : Hid (Below w'.heap.size w' (w1.setCell ⟨w'.heap.size + 1, q, none⟩ (.string v))) := HB1.out.setCell (by simp) _
  have o0 := fun o => (HO2.out.alloc o).1
  have o1 := fun o => (HO2.out.alloc o).2.1
  have o2 := fun o => (HO2.out.alloc o).2.2.1
  have o3 := fun o => (HO2.out.alloc o).2.2.2.1
  go_wp2_with fail
  refine (equal_any t c s t c s _ _ n cap n n ss (ss.set q v) _ HM.out (HRA2.out.alloc _) (HRC2.out.alloc _)).mono ?_
  rintro e u1 ⟨rfl, hu⟩
  have HB3 : Hid (Below w'.heap.size w' u1) := (HB2.out.alloc HB2.out.size _).trans (hu.mono (by have := HB2.out.size; simp; omega))
  obtain ⟨a0, a1, a2, a3, al⟩ := (HO2.out.alloc _).step hu
  obtain ⟨b0, b1, b2, b3, bl⟩ := (boxAt.new (w1.setCell ⟨w'.heap.size + 1, q, none⟩ (.string v)) w1.heap.size t c s (.slice (some ⟨w'.heap.size + 1, 0, none⟩) n n) (by simp [World.setCell])).step hu
  have HRA3 : Hid (StrRow u1 (some ⟨b, off, none⟩) n ss) := (HRA2.out.alloc _).below hu
  have HRC3 : Hid (StrRow u1 (some ⟨w'.heap.size + 1, 0, none⟩) n (ss.set q v)) := (HRC2.out.alloc _).below hu
  clear hu o0 o1 o2 o3
  go_wp2_with fail
  refine (equal_any t c s t c s _ _ n n n cap (ss.set q v) ss _ HM.out HRC3.out HRA3.out).mono ?_
  rintro e u2 ⟨rfl, hu⟩
  have HB4 : Hid (Below w'.heap.size w' u2) := HB3.out.trans (hu.mono HB3.out.size)
  clear hu
  go_wp2
  go_ret
  exact ⟨by simp, HB4.out⟩

/-- THE WALK, whatever the input. -/
theorem law2_walk (t c s v : ByteArray) (a : Option Addr) (n cap : Nat) (ss : List ByteArray) (f p : Int) (w : World) (hn : n ≤ maxLen) (hnil : a = none → n = 0 ∧ cap = 0) (hr : StrRow w a n ss) (hf : 0 ≤ f) :
    Calls Try.prog 4 #[.string t, .string c, .string s, .slice a n cap, .int .u8 f, .int .i64 p, .string v] w fun e w' => e = .returned (.bool true) ∧ Below w.heap.size w w' := by
  by_cases h3 : 3 < f
  · exact law2_big t c s v a n cap f p ss w hn hnil hr h3
  have h4 : f = 0 ∨ f = 1 ∨ f = 2 ∨ f = 3 := by omega
  rcases h4 with rfl | rfl | rfl | rfl
  · exact law2_f0 t c s v a n cap p _ ss w hn hnil hr rfl
  · exact law2_f1 t c s v a n cap p _ ss w hn hnil hr rfl
  · exact law2_f2 t c s v a n cap p _ ss w hn hnil hr rfl
  · by_cases hp : p < 0 ∨ (n : Int) ≤ p
    · exact law2_f3_out t c s v a n cap p ss w hn hnil hr hp
    · obtain ⟨q, rfl⟩ := Int.eq_ofNat_of_zero_le (show 0 ≤ p by omega)
      have hr0 := hr
      rcases hr.2 with h0 | ⟨b, off, rfl, hb, hc⟩
      · omega
      · exact law2_f3 t c s v b off n cap q _ _ ss w hn hnil hr0 hb (hc q (by omega)) (by omega) rfl rfl
end Go.Proofs.Qxb6628777a
