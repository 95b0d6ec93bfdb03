/-
  What is written reads back: the plain facts on the text's bytes.
-/
import Derived.Test.Qxb6628869aDoorPlain
import Derived.Lib.ItoaWalk
import Derived.Lib.ItoaLen
namespace Go.Proofs.Qxb6628869aDoor
open Go.Lib

theorem gL (a b : List UInt8) (i : Nat) (d : UInt8) (h : i < a.length) : (a ++ b).getD i d = a.getD i d := by
  simp only [List.getD, List.getElem?_append_left h]
theorem gR (a b : List UInt8) (i : Nat) (d : UInt8) (h : a.length ≤ i) : (a ++ b).getD i d = b.getD (i - a.length) d := by
  simp only [List.getD, List.getElem?_append_right h]
theorem gE (a : List UInt8) {i : Nat} (d : UInt8) (h : i < a.length) : a.getD i d = a[i] := by
  simp [List.getD, List.getElem?_eq_getElem h]

def dig (b : UInt8) : Nat := b.toNat - 48
def IsD (b : UInt8) : Prop := 48 ≤ b.toNat ∧ b.toNat ≤ 57
/-- Read on from m. -/
def val (m : Nat) (l : List UInt8) : Nat := l.foldl (fun m b => m * 10 + dig b) m
theorem val_append (m : Nat) (a b : List UInt8) : val m (a ++ b) = val (val m a) b := by simp [val, List.foldl_append]
theorem val_one (m : Nat) (b : UInt8) : val m [b] = m * 10 + dig b := rfl
theorem val_ge (l : List UInt8) : ∀ m, m ≤ val m l := by
  induction l with
  | nil => exact fun m => Nat.le_refl m
  | cons b l ih => intro m; have := ih (m * 10 + dig b); show m ≤ val (m * 10 + dig b) l; omega
theorem dig_of {d : Nat} (h : d < 10) : dig (UInt8.ofNat (48 + d)) = d := by
  have : (UInt8.ofNat (48 + d)).toNat = 48 + d := by rw [UInt8.toNat_ofNat']; omega
  rw [dig, this]; omega
theorem isD_of {d : Nat} (h : d < 10) : IsD (UInt8.ofNat (48 + d)) := by
  have : (UInt8.ofNat (48 + d)).toNat = 48 + d := by rw [UInt8.toNat_ofNat']; omega
  rw [IsD, this]; omega
theorem val_dec (u : Nat) : val 0 (decDigits u) = u := by
  induction u using Nat.strongRecOn with
  | _ u ih =>
    by_cases h : u < 10
    · rw [decDigits, dif_pos h, val_one, dig_of h]; omega
    · rw [decDigits, dif_neg h, val_append, ih (u / 10) (by omega), val_one, dig_of (by omega)]; omega
theorem isD_dec (u : Nat) : ∀ b ∈ decDigits u, IsD b := by
  induction u using Nat.strongRecOn with
  | _ u ih =>
    intro b hb
    by_cases h : u < 10
    · rw [decDigits, dif_pos h] at hb
      rw [List.mem_singleton.1 hb]; exact isD_of h
    · rw [decDigits, dif_neg h] at hb
      rcases List.mem_append.1 hb with hb | hb
      · exact ih (u / 10) (by omega) b hb
      · rw [List.mem_singleton.1 hb]; exact isD_of (by omega)
theorem lead_dec (u : Nat) (h0 : 0 < u) : dig ((decDigits u).getD 0 0) ≠ 0 := by
  induction u using Nat.strongRecOn with
  | _ u ih =>
    by_cases h : u < 10
    · rw [decDigits, dif_pos h]
      show dig (UInt8.ofNat (48 + u)) ≠ 0
      rw [dig_of h]; omega
    · rw [decDigits, dif_neg h, gL _ _ _ _ (by have := decDigits_pos (u / 10); omega)]
      exact ih (u / 10) (by omega) (by omega)
theorem val_zeros (c : Nat) : val 0 (List.replicate c 48) = 0 := by
  induction c with
  | zero => rfl
  | succ c ih => rw [List.replicate_succ]; exact ih
theorem val_pad (mu u : Nat) : val 0 (padL mu u) = u := by
  unfold padL; split
  · rw [val_append, val_zeros, val_dec]
  · exact val_dec u
theorem isD_pad (mu u : Nat) : ∀ b ∈ padL mu u, IsD b := by
  intro b hb
  unfold padL at hb; split at hb
  · rcases List.mem_append.1 hb with hb | hb
    · rw [(List.mem_replicate.1 hb).2]; exact ⟨by decide, by decide⟩
    · exact isD_dec u b hb
  · exact isD_dec u b hb
theorem isD_at (mu u j : Nat) (h : j < (padL mu u).length) : IsD ((padL mu u).getD j 0) := by
  apply isD_pad mu u
  rw [gE _ _ h]; exact List.getElem_mem h

/-- The digit at place j; the value of the first j digits; how many stand ahead of the point. -/
def D (mu u j : Nat) : Nat := dig ((padL mu u).getD j 0)
def V (mu u j : Nat) : Nat := val 0 ((padL mu u).take j)
def N (mu u : Nat) : Nat := (padL mu u).length - mu
theorem V_zero (mu u : Nat) : V mu u 0 = 0 := rfl
theorem V_all (mu u : Nat) : V mu u (N mu u + mu) = u := by
  have := padL_gt mu u
  rw [V, N, List.take_of_length_le (by omega), val_pad]
theorem V_le (mu u j : Nat) : V mu u j ≤ u := by
  have h := val_pad mu u
  rw [← List.take_append_drop j (padL mu u), val_append] at h
  have := val_ge ((padL mu u).drop j) (V mu u j)
  rw [V] at this ⊢; omega
theorem V_succ (mu u j : Nat) (h : j < N mu u + mu) : V mu u (j + 1) = V mu u j * 10 + D mu u j := by
  have hl := padL_gt mu u
  have hj : j < (padL mu u).length := by unfold N at h; omega
  rw [V, V, D, List.take_succ_eq_append_getElem hj, val_append, val_one, gE _ _ hj]
theorem D_le (mu u j : Nat) (h : j < N mu u + mu) : D mu u j ≤ 9 := by
  have hl := padL_gt mu u
  have := isD_at mu u j (by unfold N at h; omega)
  unfold IsD at this; unfold D dig; omega
theorem D_at (mu u j : Nat) (h : j < N mu u + mu) : ((padL mu u).getD j 0).toNat = 48 + D mu u j := by
  have hl := padL_gt mu u
  have := isD_at mu u j (by unfold N at h; omega)
  unfold IsD at this; unfold D dig; omega
theorem N_pos (mu u : Nat) : 1 ≤ N mu u := by have := padL_gt mu u; unfold N; omega
theorem D_lead (mu u : Nat) (h : 1 < N mu u) : D mu u 0 ≠ 0 := by
  unfold N at h
  rw [padL_length] at h
  unfold D padL
  by_cases c : (decDigits u).length ≤ mu
  · rw [if_pos c] at h; omega
  · rw [if_neg c] at h ⊢
    apply lead_dec
    cases u with
    | zero => rw [decDigits_length, nDigits_small (by omega)] at h; omega
    | succ u => omega

/-- How long the sign is. -/
def K (neg : Bool) : Nat := if neg then 1 else 0
theorem text_length (neg : Bool) (mu u : Nat) : (textL neg mu u).length = K neg + N mu u + (if 0 < mu then 1 + mu else 0) := by
  have h1 := ipart_length mu u
  have h2 := fpart_length mu u
  have h : (bodyL mu u).length = N mu u + (if 0 < mu then 1 + mu else 0) := by
    rw [bodyL, List.length_append, h1, N]
    split
    · simp [h2]; omega
    · simp
  cases neg
  · show (bodyL mu u).length = 0 + N mu u + _; rw [h]; omega
  · show (bodyL mu u).length + 1 = 1 + N mu u + _; rw [h]; omega
theorem text_at (neg : Bool) (mu u i : Nat) : (textL neg mu u).getD (K neg + i) 0 = (bodyL mu u).getD i 0 := by
  cases neg
  · show (bodyL mu u).getD (0 + i) 0 = _; rw [Nat.zero_add]
  · show (45 :: bodyL mu u).getD (1 + i) 0 = _; rw [Nat.add_comm 1 i]; rfl
theorem body_int (mu u i : Nat) (h : i < N mu u) : (bodyL mu u).getD i 0 = (padL mu u).getD i 0 := by
  have h1 := ipart_length mu u
  have h2 := padL_gt mu u
  unfold N at h
  rw [bodyL, gL _ _ _ _ (by omega), ← parts mu u, gL _ _ _ _ (by omega)]
theorem body_point (mu u : Nat) (h : 0 < mu) : (bodyL mu u).getD (N mu u) 0 = 46 := by
  have h1 := ipart_length mu u
  rw [bodyL, if_pos h, gR _ _ _ _ (by unfold N; omega)]
  rw [h1, N, Nat.sub_self]; rfl
theorem body_frac (mu u i : Nat) (h : 0 < mu) : (bodyL mu u).getD (N mu u + 1 + i) 0 = (padL mu u).getD (N mu u + i) 0 := by
  have h1 := ipart_length mu u
  rw [bodyL, if_pos h, gR _ _ _ _ (by unfold N; omega), h1]
  rw [show N mu u + 1 + i - ((padL mu u).length - mu) = i + 1 by unfold N; omega]
  rw [← parts mu u, gR _ _ _ _ (by unfold N; omega), h1]
  rw [show N mu u + i - ((padL mu u).length - mu) = i by unfold N; omega]
  rfl

/-- The text's bytes. -/
structure Txt (S : ByteArray) (k n mu : Nat) (D : Nat → Nat) : Prop where
  size : S.size = k + n + (if 0 < mu then 1 + mu else 0)
  n1 : 1 ≤ n
  lead : 1 < n → D 0 ≠ 0
  le : ∀ j, j < n + mu → D j ≤ 9
  int : ∀ j, j < n → ∀ h : k + j < S.size, (S[k + j]).toNat = 48 + D j
  point : 0 < mu → ∀ h : k + n < S.size, (S[k + n]).toNat = 46
  frac : 0 < mu → ∀ j, j < mu → ∀ h : k + n + 1 + j < S.size, (S[k + n + 1 + j]).toNat = 48 + D (n + j)

theorem str_at (l : List UInt8) (i : Nat) (h : i < (str l).size) : (str l)[i] = l.getD i 0 := by
  rw [Lib.getD_at (str l) i h, str_list]
theorem txt (neg : Bool) (mu u : Nat) : Txt (str (textL neg mu u)) (K neg) (N mu u) mu (D mu u) where
  size := by rw [str_size, text_length]
  n1 := N_pos mu u
  lead := D_lead mu u
  le := D_le mu u
  int j hj h := by rw [str_at, text_at, body_int mu u j hj, D_at mu u j (by omega)]
  point hm h := by rw [str_at, text_at, body_point mu u hm]; rfl
  frac hm j hj h := by
    rw [str_at]
    have e : K neg + N mu u + 1 + j = K neg + (N mu u + 1 + j) := by omega
    rw [e, text_at, body_frac mu u j hm, D_at mu u _ (by omega)]
theorem N_le (mu u : Nat) (hu : u < 18446744073709551616) : N mu u ≤ 20 := by
  unfold N
  have h := nDigits_le20 u hu
  have h1 := nDigits_pos u
  rw [padL_length, decDigits_length]
  split <;> omega
end Go.Proofs.Qxb6628869aDoor
