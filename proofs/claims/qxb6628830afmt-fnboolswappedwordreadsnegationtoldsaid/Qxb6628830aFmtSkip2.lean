/-
  'skipSpace' at a place that is known; at a place where nothing is to skip it only reads.
-/
import Derived.Test.Qxb6628830aFmtSkip
namespace Go.Proofs.Qxb6628830aFmt
open Go.RowKit

theorem SkipTo.unique {zs : List Int} {n p k k' : Nat} (h : SkipTo zs n p k) (h' : SkipTo zs n p k') : k = k' := by
  rcases Nat.lt_trichotomy k k' with hlt | e | hlt
  · have h1 := h.stop (by have := h'.hi; omega)
    rw [h'.all k h.lo hlt] at h1; cases h1
  · exact e
  · have h1 := h'.stop (by have := h.hi; omega)
    rw [h.all k' h'.lo hlt] at h1; cases h1
theorem SkipTo.self {zs : List Int} {n p k : Nat} (h : SkipTo zs n p k) : SkipTo zs n k k := ⟨Nat.le_refl _, h.hi, fun j h1 h2 => by omega, h.stop⟩
theorem skip_exists (zs : List Int) (n p : Nat) (hp : p ≤ n) : ∃ k, SkipTo zs n p k := by
  obtain ⟨g, hg⟩ : ∃ g, g = n - p := ⟨_, rfl⟩
  induction g generalizing p with
  | zero => exact ⟨p, Nat.le_refl _, hp, fun j h1 h2 => by omega, fun h => by omega⟩
  | succ g ih =>
    cases hs : spc (zs.getD p 0) with
    | false => exact ⟨p, Nat.le_refl _, hp, fun j h1 h2 => by omega, fun _ => hs⟩
    | true =>
      obtain ⟨k, h⟩ := ih (p + 1) (by omega) (by omega)
      refine ⟨k, by have := h.lo; omega, h.hi, fun j h1 h2 => ?_, h.stop⟩
      by_cases e : j = p
      · subst e; exact hs
      · exact h.all j (by omega) h2

theorem skip_at (b : Nat) (a : Option Addr) (n cap p k : Nat) (d : Int) (zs : List Int) (w : World) (hn : n ≤ maxLen) (hsk : SkipTo zs n p k) (hrd : Rd w b a n cap p d) (hr : ByteRow w a n zs) (hne : ∀ g off, a = some ⟨g, off, none⟩ → g ≠ b) :
    Calls Tryf.prog 15 #[.pointer (some ⟨b, 0, none⟩)] w fun e w' => e = .returned (.int .i64 k) ∧ Rd w' b a n cap k d ∧ Mv b w w' := by
  refine (skip_walk b a n cap p d zs w hn (Nat.le_trans hsk.lo hsk.hi) hrd hr hne).mono ?_
  rintro e w' ⟨k', rfl, h1, h2, h3⟩
  obtain rfl := h1.unique hsk
  exact ⟨rfl, h2, h3⟩

set_option maxHeartbeats 400000 in
theorem skip_here (b : Nat) (a : Option Addr) (n cap k : Nat) (d : Int) (zs : List Int) (w : World) (hsk : SkipTo zs n k k) (hrd : Rd w b a n cap k d) (hr : ByteRow w a n zs) :
    Calls Tryf.prog 15 #[.pointer (some ⟨b, 0, none⟩)] w fun e w' => e = .returned (.int .i64 k) ∧ ∃ m, w' = w.drewN m := by
  have c0 := hrd.c0
  have c1 := hrd.c1
  have hkn : k ≤ n := hsk.hi
  by_cases hlt : k < n
  · obtain ⟨_, hr⟩ := hr
    obtain ⟨g, off, ha, hgl, hcz⟩ := hr.resolve_left (by omega)
    subst ha
    obtain ⟨c, hc⟩ : ∃ c, c = zs.getD k 0 := ⟨_, rfl⟩
    have cz : w.cell? ⟨g, off + k, none⟩ = some (.int .u8 c) := by rw [hcz k hlt, hc]
    have hs := hsk.stop hlt
    rw [← hc] at hs
    simp only [spc, Bool.or_eq_false_iff] at hs
    obtain ⟨⟨⟨s1, s2⟩, s3⟩, s4⟩ := hs
    clear hcz hr hsk hc hrd
    go_enter Tryf.func15, Tryf.ntmps15
    go_wp2
    go_loopg [2] 0 (fun _ v wr => v = .int .i64 0 ∧ wr = w)
    case atStart => exact ⟨rfl, rfl⟩
    case round =>
      obtain ⟨rfl, hw⟩ := hrel
      subst hw
      go_wp2
      go_quiet (fail)
      go_wp2
      go_quiet (fail)
      go_wp2
      go_ret
      exact ⟨rfl, _, rfl⟩
  · clear hsk hrd hr
    go_enter Tryf.func15, Tryf.ntmps15
    go_wp2
    go_loopg [2] 0 (fun _ v wr => v = .int .i64 0 ∧ wr = w)
    case atStart => exact ⟨rfl, rfl⟩
    case round =>
      obtain ⟨rfl, hw⟩ := hrel
      subst hw
      go_wp2
      go_quiet (fail)
      go_wp2
      go_ret
      exact ⟨rfl, _, rfl⟩
end Go.Proofs.Qxb6628830aFmt
