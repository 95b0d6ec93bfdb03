/-
  Ten times the amount, with one digit more: the plain law.
-/
import Derived.Test.Qxb6628869aDoorTxt
namespace Go.Proofs.Qxb6628869aDoor
open Go.Lib

theorem dec_ten (u : Nat) (h : 0 < u) : decDigits (u * 10) = decDigits u ++ [48] := by
  rw [decDigits, dif_neg (by omega), show u * 10 / 10 = u by omega, show u * 10 % 10 = 0 by omega]; rfl
theorem dec_zero : decDigits 0 = [48] := by rw [decDigits, dif_pos (by omega)]; rfl
theorem pad_ten (mu u : Nat) : padL (mu + 1) (u * 10) = padL mu u ++ [48] := by
  by_cases h : 0 < u
  · unfold padL
    rw [dec_ten u h, List.length_append]
    show (if (decDigits u).length + 1 ≤ mu + 1 then _ else _) = _
    by_cases c : (decDigits u).length ≤ mu
    · rw [if_pos (by omega), if_pos c, ← List.append_assoc]
      congr 3
      simp
    · rw [if_neg (by omega), if_neg c]
  · obtain rfl : u = 0 := by omega
    show padL (mu + 1) 0 = _
    unfold padL
    rw [dec_zero]
    show (if 1 ≤ mu + 1 then _ else _) = (if 1 ≤ mu then _ else _) ++ _
    rw [if_pos (by omega)]
    by_cases c : 1 ≤ mu
    · rw [if_pos c]
      show List.replicate (mu + 1 - 1 + 1) 48 ++ [48] = List.replicate (mu - 1 + 1) 48 ++ [48] ++ [48]
      rw [show mu + 1 - 1 + 1 = mu + 1 by omega, show mu - 1 + 1 = mu by omega, List.replicate_succ']
    · rw [if_neg c, show mu = 0 by omega]; rfl
theorem ipart_ten (mu u : Nat) : ipart (mu + 1) (u * 10) = ipart mu u := by
  unfold ipart
  rw [pad_ten, List.length_append, List.length_singleton, show (padL mu u).length + 1 - (mu + 1) = (padL mu u).length - mu by omega, List.take_append_of_le_length (by omega)]
theorem fpart_ten (mu u : Nat) : fpart (mu + 1) (u * 10) = fpart mu u ++ [48] := by
  unfold fpart
  rw [pad_ten, List.length_append, List.length_singleton, show (padL mu u).length + 1 - (mu + 1) = (padL mu u).length - mu by omega, List.drop_append_of_le_length (by omega)]
theorem body_ten (mu u : Nat) : bodyL (mu + 1) (u * 10) = bodyL mu u ++ (if 0 < mu then [48] else [46, 48]) := by
  unfold bodyL
  rw [ipart_ten, fpart_ten, if_pos (by omega)]
  by_cases h : 0 < mu
  · rw [if_pos h, if_pos h]; simp
  · rw [if_neg h, if_neg h]
    have := fpart_length mu u
    rw [List.eq_nil_of_length_eq_zero (show (fpart mu u).length = 0 by omega)]; simp
theorem text_ten (neg : Bool) (mu u : Nat) : textL neg (mu + 1) (u * 10) = textL neg mu u ++ (if 0 < mu then [48] else [46, 48]) := by
  unfold textL
  rw [body_ten]
  cases neg <;> rfl
theorem str_append (a b : List UInt8) : str (a ++ b) = str a ++ str b := by
  symm; apply str_ext; simp [ByteArray.data_append, str]
theorem str_ten (neg : Bool) (mu u : Nat) (h : 0 < mu) : str (textL neg (mu + 1) (u * 10)) = str (textL neg mu u) ++ ⟨#[48]⟩ := by
  rw [text_ten, if_pos h, str_append]; rfl
theorem str_ten0 (neg : Bool) (mu u : Nat) (h : ¬ 0 < mu) : str (textL neg (mu + 1) (u * 10)) = str (textL neg mu u) ++ ⟨#[46, 48]⟩ := by
  rw [text_ten, if_neg h, str_append]; rfl
theorem str_neg (mu u : Nat) : str (textL true mu u) = ⟨#[45]⟩ ++ str (textL false mu u) := (minus (bodyL mu u)).symm
theorem str_len (neg : Bool) (mu u : Nat) : (str (textL neg mu u)).size = K neg + (if nDigits u < mu + 1 then mu + 1 else nDigits u) + (if 0 < mu then 1 else 0) := by
  have h1 := nDigits_pos u
  rw [str_size, text_length, N, padL_length, decDigits_length]
  by_cases c : nDigits u ≤ mu <;> by_cases m0 : 0 < mu
  · simp only [if_pos c, if_pos m0, if_pos (show nDigits u < mu + 1 by omega)]; omega
  · simp only [if_pos c, if_neg m0, if_pos (show nDigits u < mu + 1 by omega)]; omega
  · simp only [if_neg c, if_pos m0, if_neg (show ¬ nDigits u < mu + 1 by omega)]; omega
  · simp only [if_neg c, if_neg m0, if_neg (show ¬ nDigits u < mu + 1 by omega)]; omega
end Go.Proofs.Qxb6628869aDoor
