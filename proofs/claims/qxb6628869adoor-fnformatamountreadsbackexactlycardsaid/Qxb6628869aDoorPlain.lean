/-
  The plain layer: what 'FormatAmount' writes, as lists of bytes; no Go in sight.
-/
import Derived.Lib.ItoaNum
import Derived.Lib.Repeat
import Derived.Lib.Strings
namespace Go.Proofs.Qxb6628869aDoor
open Go.Lib

/-- The digits of u, at least mu + 1 of them. -/
def padL (mu u : Nat) : List UInt8 := if (decDigits u).length ≤ mu then List.replicate (mu - (decDigits u).length + 1) 48 ++ decDigits u else decDigits u
/-- The whole part, the decimals. -/
def ipart (mu u : Nat) : List UInt8 := (padL mu u).take ((padL mu u).length - mu)
def fpart (mu u : Nat) : List UInt8 := (padL mu u).drop ((padL mu u).length - mu)
/-- What FormatAmount writes of the magnitude u. -/
def bodyL (mu u : Nat) : List UInt8 := ipart mu u ++ (if 0 < mu then 46 :: fpart mu u else [])
/-- What it writes of an amount. -/
def textL (neg : Bool) (mu u : Nat) : List UInt8 := if neg then 45 :: bodyL mu u else bodyL mu u

theorem decDigits_pos (u : Nat) : 1 ≤ (decDigits u).length := by rw [decDigits_length]; exact nDigits_pos u
theorem padL_length (mu u : Nat) : (padL mu u).length = if (decDigits u).length ≤ mu then mu + 1 else (decDigits u).length := by
  unfold padL; split
  · simp; omega
  · rfl
theorem padL_gt (mu u : Nat) : mu < (padL mu u).length := by rw [padL_length]; split <;> omega
theorem ipart_length (mu u : Nat) : (ipart mu u).length = (padL mu u).length - mu := by rw [ipart, List.length_take]; omega
theorem fpart_length (mu u : Nat) : (fpart mu u).length = mu := by rw [fpart, List.length_drop]; have := padL_gt mu u; omega
theorem parts (mu u : Nat) : ipart mu u ++ fpart mu u = padL mu u := List.take_append_drop _ _

/-- A string out of its bytes. -/
def str (l : List UInt8) : ByteArray := ⟨l.toArray⟩
theorem str_size (l : List UInt8) : (str l).size = l.length := by simp [str, ByteArray.size]
theorem str_list (l : List UInt8) : (str l).data.toList = l := by simp [str]
theorem str_ext {a : ByteArray} {l : List UInt8} (h : a.data.toList = l) : a = str l := by
  cases a; subst h; simp [str]
theorem repeat_zero (c : Nat) : repeatL [48] c = List.replicate c 48 := by
  induction c with
  | zero => rfl
  | succ c ih => rw [repeatL, ih, List.replicate_succ]; rfl

section
variable {D : ByteArray} {u mu : Nat}
theorem body_dot (E : ByteArray) (hE : E.data.toList = padL mu u) (hm : 0 < mu) : (E.extract 0 (E.size - mu) ++ ((⟨#[46]⟩ : ByteArray) ++ E.extract (E.size - mu) E.size)) = str (bodyL mu u) := by
  have hs : E.size = (padL mu u).length := by rw [← hE]; rfl
  apply str_ext
  have e : List.take ((padL mu u).length - ((padL mu u).length - mu)) (List.drop ((padL mu u).length - mu) (padL mu u)) = fpart mu u := by
    rw [fpart]; exact List.take_of_length_le (by simp)
  simp only [ByteArray.data_append, Array.toList_append, extract_data, hE, hs, List.drop_zero, Nat.sub_zero, e]
  rw [bodyL, if_pos hm, ipart]
  simp
theorem body_bare (E : ByteArray) (hE : E.data.toList = padL mu u) (hm : ¬ 0 < mu) : E.extract 0 (E.size - mu) = str (bodyL mu u) := by
  have hs : E.size = (padL mu u).length := by rw [← hE]; rfl
  apply str_ext
  simp only [extract_data, hE, hs]
  rw [bodyL, if_neg hm, ipart]
  simp
theorem minus (l : List UInt8) : (⟨#[45]⟩ : ByteArray) ++ str l = str (45 :: l) := by
  apply str_ext
  simp [ByteArray.data_append, str]
end
end Go.Proofs.Qxb6628869aDoor
