/-
  The plain law of the open-addressed table and of the filter: no Go in sight.
-/
import Derived.Test.Qxb6628906aRows
namespace Go.Proofs.Qxb6628906a

abbrev key (ss : List ByteArray) (j : Nat) : ByteArray := ss.getD j ByteArray.empty
abbrev at' (l : List Nat) (p : Nat) : Nat := l.getD p 0
/-- The search for x stands at p. -/
def Stop (ss : List ByteArray) (tb : List Nat) (x : ByteArray) (p : Nat) : Prop := at' tb p = 0 ∨ key ss (at' tb p - 1) = x
/-- The search for x from s ends at p, after j steps. -/
structure SlotAt (ss : List ByteArray) (tb : List Nat) (ts s : Nat) (x : ByteArray) (p j : Nat) : Prop where
  here : p = (s + j) % ts
  stop : Stop ss tb x p
  go : ∀ i, i < j → ¬ Stop ss tb x ((s + i) % ts)

theorem SlotAt.unique {ss : List ByteArray} {tb : List Nat} {ts s : Nat} {x : ByteArray} {p j q i : Nat} (h : SlotAt ss tb ts s x p j) (k : SlotAt ss tb ts s x q i) : p = q := by
  rcases Nat.lt_trichotomy j i with hlt | e | hlt
  · exact absurd (h.here ▸ h.stop) (k.go j hlt)
  · rw [h.here, k.here, e]
  · exact absurd (k.here ▸ k.stop) (h.go i hlt)

theorem least {P : Nat → Prop} : ∀ j, P j → ∃ i, P i ∧ ∀ k, k < i → ¬ P k := by
  intro j
  induction j using Nat.strongRecOn with
  | _ j ih =>
    intro h
    by_cases c : ∃ k, k < j ∧ P k
    · obtain ⟨k, hk, hp⟩ := c; exact ih k hk hp
    · exact ⟨j, h, fun k hk hp => c ⟨k, hk, hp⟩⟩

theorem slot_exists (ss : List ByteArray) (tb : List Nat) (ts s : Nat) (x : ByteArray) (p0 : Nat) (hp : p0 < ts) (h0 : at' tb p0 = 0) : ∃ p j, p < ts ∧ SlotAt ss tb ts s x p j := by
  have e : (s + (p0 + ts - s % ts)) % ts = p0 := by
    have h1 : s % ts < ts := Nat.mod_lt _ (by omega)
    have h2 : s = ts * (s / ts) + s % ts := (Nat.div_add_mod s ts).symm
    have h3 : s + (p0 + ts - s % ts) = p0 + ts * (s / ts + 1) := by rw [Nat.mul_add, Nat.mul_one]; omega
    rw [h3, Nat.add_mul_mod_self_left, Nat.mod_eq_of_lt hp]
  obtain ⟨j, hj, hl⟩ := least (P := fun j => Stop ss tb x ((s + j) % ts)) (p0 + ts - s % ts) (by show Stop _ _ _ _; rw [e]; exact .inl h0)
  exact ⟨(s + j) % ts, j, Nat.mod_lt _ (by omega), rfl, hj, hl⟩

/-- The table after the first k ids. -/
structure Inv (ss : List ByteArray) (tb : List Nat) (ts : Nat) (st : ByteArray → Nat) (k : Nat) : Prop where
  len : tb.length = ts
  le : ∀ p, at' tb p ≤ k
  first : ∀ p, at' tb p ≠ 0 → ∀ j, j < at' tb p - 1 → key ss j ≠ key ss (at' tb p - 1)
  found : ∀ j, j < k → ∃ p i, SlotAt ss tb ts (st (key ss j)) (key ss j) p i ∧ at' tb p ≠ 0
  cnt : tb.countP (fun x => x != 0) ≤ k

theorem getD_rep (ts p : Nat) : at' (List.replicate ts 0) p = 0 := by
  simp only [at', List.getD, List.getElem?_replicate]; split <;> rfl
theorem Inv.zero (ss : List ByteArray) (ts : Nat) (st : ByteArray → Nat) : Inv ss (List.replicate ts 0) ts st 0 where
  len := by simp
  le p := by rw [getD_rep]; exact Nat.le_refl _
  first p h := absurd (getD_rep ts p) h
  found j h := by omega
  cnt := by
    rw [List.countP_replicate]; simp

theorem countP_set (l : List Nat) (f : Nat → Bool) : ∀ (p v : Nat), (l.set p v).countP f ≤ l.countP f + 1 := by
  induction l with
  | nil => intro p v; simp
  | cons a l ih =>
    intro p v
    cases p with
    | zero => rw [List.set_cons_zero, List.countP_cons, List.countP_cons]; split <;> split <;> omega
    | succ p => rw [List.set_cons_succ, List.countP_cons, List.countP_cons]; have := ih p v; split <;> omega

theorem Inv.empty {ss : List ByteArray} {tb : List Nat} {ts : Nat} {st : ByteArray → Nat} {k : Nat} (h : Inv ss tb ts st k) (hk : k < ts) : ∃ p, p < ts ∧ at' tb p = 0 := by
  by_cases c : ∃ p, p < ts ∧ at' tb p = 0
  · exact c
  · exfalso
    have hall : ∀ x ∈ tb, (x != 0) = true := fun x hx => by
      obtain ⟨p, hp, rfl⟩ := List.getElem_of_mem hx
      have : at' tb p ≠ 0 := fun e => c ⟨p, by rw [← h.len]; exact hp, e⟩
      simp only [at', List.getD, List.getElem?_eq_getElem hp, Option.getD_some] at this
      simpa using this
    have := List.countP_eq_length.2 hall
    have := h.cnt
    have := h.len
    omega

section
variable {ss : List ByteArray} {tb : List Nat} {ts : Nat} {st : ByteArray → Nat} {k p i : Nat}
theorem at_set (tb : List Nat) (p v q : Nat) (hp : p < tb.length) : at' (tb.set p v) q = if q = p then v else at' tb q := by
  simp only [at', List.getD, List.getElem?_set]
  by_cases e : p = q
  · subst e; simp [hp]
  · rw [if_neg e, if_neg (fun h => e h.symm)]

theorem Inv.old (h : Inv ss tb ts st k) (hs : SlotAt ss tb ts (st (key ss k)) (key ss k) p i) (h0 : at' tb p ≠ 0) : Inv ss tb ts st (k + 1) where
  len := h.len
  le q := Nat.le_succ_of_le (h.le q)
  first := h.first
  found j hj := by
    by_cases e : j = k
    · subst e; exact ⟨p, i, hs, h0⟩
    · exact h.found j (by omega)
  cnt := Nat.le_succ_of_le h.cnt

theorem Inv.fresh (h : Inv ss tb ts st k) (hs : SlotAt ss tb ts (st (key ss k)) (key ss k) p i) (h0 : at' tb p = 0) : ∀ j, j < k → key ss j ≠ key ss k := fun j hj e => by
  obtain ⟨q, i', hq, hq0⟩ := h.found j hj
  rw [e] at hq
  exact hq0 (hs.unique hq ▸ h0)

theorem Inv.new (h : Inv ss tb ts st k) (hp : p < ts) (hs : SlotAt ss tb ts (st (key ss k)) (key ss k) p i) (h0 : at' tb p = 0) : Inv ss (tb.set p (k + 1)) ts st (k + 1) := by
  have hpl : p < tb.length := by rw [h.len]; exact hp
  -- a place that bore something is not p
  have keep : ∀ q, at' tb q ≠ 0 → at' (tb.set p (k + 1)) q = at' tb q := fun q hq => by
    have hne : ¬ q = p := fun e => hq (by rw [e]; exact h0)
    rw [at_set tb p (k + 1) q hpl, if_neg hne]
  have path : ∀ (x : ByteArray) (q : Nat), ¬ Stop ss tb x q → ¬ Stop ss (tb.set p (k + 1)) x q := fun x q hq hs' => by
    have hne : at' tb q ≠ 0 := fun e => hq (.inl e)
    unfold Stop at hs'
    rw [keep q hne] at hs'
    exact hq hs'
  constructor
  · rw [List.length_set]; exact h.len
  · intro q
    rw [at_set tb p (k + 1) q hpl]
    split
    · exact Nat.le_refl _
    · exact Nat.le_succ_of_le (h.le q)
  · intro q hq
    rw [at_set tb p (k + 1) q hpl] at hq ⊢
    split
    · exact fun j hj => h.fresh hs h0 j (by omega)
    · rename_i hne
      rw [if_neg hne] at hq
      exact h.first q hq
  · intro j hj
    by_cases e : j = k
    · subst e
      refine ⟨p, i, ⟨hs.here, .inr ?_, fun i' hi' => path _ _ (hs.go i' hi')⟩, ?_⟩
      · rw [at_set tb p _ p hpl, if_pos rfl, Nat.add_sub_cancel]
      · rw [at_set tb p _ p hpl, if_pos rfl]; omega
    · obtain ⟨q, i', hq, hq0⟩ := h.found j (by omega)
      refine ⟨q, i', ⟨hq.here, ?_, fun i'' hi'' => path _ _ (hq.go i'' hi'')⟩, ?_⟩
      · have := hq.stop
        unfold Stop at this ⊢
        rw [keep q hq0]; exact this
      · rw [keep q hq0]; exact hq0
  · exact Nat.le_trans (countP_set tb _ p (k + 1)) (Nat.succ_le_succ h.cnt)

/-- What a hit and a miss mean. -/
theorem Inv.hit {n : Nat} {x : ByteArray} (h : Inv ss tb ts st n) (hs : SlotAt ss tb ts (st x) x p i) (h0 : at' tb p ≠ 0) : at' tb p - 1 < n ∧ key ss (at' tb p - 1) = x ∧ ∀ j, j < at' tb p - 1 → key ss j ≠ x := by
  have hx : key ss (at' tb p - 1) = x := hs.stop.resolve_left h0
  have := h.le p
  exact ⟨by omega, hx, fun j hj => hx ▸ h.first p h0 j hj⟩
theorem Inv.miss {n : Nat} {x : ByteArray} (h : Inv ss tb ts st n) (hs : SlotAt ss tb ts (st x) x p i) (h0 : at' tb p = 0) : ∀ j, j < n → key ss j ≠ x := fun j hj e => by
  obtain ⟨q, i', hq, hq0⟩ := h.found j hj
  rw [e] at hq
  exact hq0 (hs.unique hq ▸ h0)
end

/-! The filter. -/
def Bit (F : List Nat) (a : Nat) : Prop := (at' F (a / 64)).testBit (a % 64) = true
def setBit (F : List Nat) (a : Nat) : List Nat := F.set (a / 64) (at' F (a / 64) ||| 2 ^ (a % 64))
theorem setBit_length (F : List Nat) (a : Nat) : (setBit F a).length = F.length := by simp [setBit]
theorem Bit.set {F : List Nat} {a : Nat} (ha : a < 64 * F.length) (b : Nat) (h : Bit F b ∨ b = a) : Bit (setBit F a) b := by
  have hl : a / 64 < F.length := by omega
  unfold Bit setBit
  rw [at_set F _ _ _ hl]
  by_cases e : b / 64 = a / 64
  · rw [if_pos e, Nat.testBit_or, Nat.testBit_two_pow]
    rcases h with h | h
    · unfold Bit at h; rw [e] at h; rw [h]; rfl
    · subst h; simp
  · rw [if_neg e]
    rcases h with h | h
    · exact h
    · subst h; exact absurd rfl e
def FInv (ss : List ByteArray) (F : List Nat) (ba bb : ByteArray → Nat) (k : Nat) : Prop := ∀ j, j < k → Bit F (ba (key ss j)) ∧ Bit F (bb (key ss j))
theorem FInv.set {ss : List ByteArray} {F : List Nat} {ba bb : ByteArray → Nat} {k : Nat} (h : FInv ss F ba bb k) (h1 : ba (key ss k) < 64 * F.length) (h2 : bb (key ss k) < 64 * F.length) :
    FInv ss (setBit (setBit F (ba (key ss k))) (bb (key ss k))) ba bb (k + 1) := fun j hj => by
  have l1 := setBit_length F (ba (key ss k))
  by_cases e : j = k
  · subst e
    exact ⟨Bit.set (by rw [l1]; exact h2) _ (.inl (Bit.set h1 _ (.inr rfl))), Bit.set (by rw [l1]; exact h2) _ (.inr rfl)⟩
  · have := h j (by omega)
    exact ⟨Bit.set (by rw [l1]; exact h2) _ (.inl (Bit.set h1 _ (.inl this.1))), Bit.set (by rw [l1]; exact h2) _ (.inl (Bit.set h1 _ (.inl this.2)))⟩
theorem and_bit (x i : Nat) : (x &&& 2 ^ i = 0) ↔ x.testBit i = false := by
  constructor
  · intro h
    have := congrArg (fun y => y.testBit i) h
    simpa [Nat.testBit_and, Nat.testBit_two_pow] using this
  · intro h
    apply Nat.eq_of_testBit_eq
    intro j
    rw [Nat.testBit_and, Nat.testBit_two_pow, Nat.zero_testBit]
    by_cases e : i = j
    · subst e; rw [h]; rfl
    · simp [e]
end Go.Proofs.Qxb6628906a
