/-
  The reader in memory; the walk of '(Reader).skipSpace' (15) and of the small functions (5, 11, 14, 6, 8).
-/
import Derived.Test.Qxb6628830aFmtFacts
import Derived.WalkKit
import Derived.WalkSpells
import Derived.WalkLawsBesides
import Derived.Deep.QuietTactic
import Derived.BigQuiet
import Derived.Deep.LoopGhost
namespace Go.Proofs.Qxb6628830aFmt
open Go.RowKit

/-- A slice of bytes: empty (at whatever address), or its cells lie in one row. -/
def ByteRow (w : World) (a : Option Addr) (n : Nat) (zs : List Int) : Prop :=
  zs.length = n ∧ (n = 0 ∨ ∃ b off, a = some ⟨b, off, none⟩ ∧ b < w.heap.size ∧ ∀ j, j < n → w.cell? ⟨b, off + j, none⟩ = some (.int .u8 (zs.getD j 0)))

/-- The reader at block b: its data, its place, its depth. -/
def Rd (w : World) (b : Nat) (a : Option Addr) (n cap : Nat) (p d : Int) : Prop := w.heap[b]? = some (.cells #[.slice a n cap, .int .i64 p, .int .i64 d] 33 (0, 0))

/-- Nothing old has turned but block b. -/
structure Mv (b : Nat) (w w' : World) : Prop where
  os : w'.os = w.os
  tape : w'.tape = w.tape
  output : w'.output = w.output
  size : w.heap.size ≤ w'.heap.size
  block : ∀ k, k < w.heap.size → k ≠ b → w'.heap[k]? = w.heap[k]?

theorem Mv.refl (b : Nat) (w : World) : Mv b w w := ⟨rfl, rfl, rfl, Nat.le_refl _, fun _ _ _ => rfl⟩
theorem Mv.trans {b : Nat} {u v w : World} (h : Mv b u v) (k : Mv b v w) : Mv b u w :=
  ⟨k.os.trans h.os, k.tape.trans h.tape, k.output.trans h.output, Nat.le_trans h.size k.size, fun i hi hb => (k.block i (Nat.lt_of_lt_of_le hi h.size) hb).trans (h.block i hi hb)⟩
theorem Mv.drewN {b : Nat} {u w : World} (h : Mv b u w) (n : Nat) : Mv b u (w.drewN n) := h.trans ⟨rfl, rfl, rfl, Nat.le_refl _, fun _ _ _ => rfl⟩
theorem Mv.drew {b : Nat} {u w : World} (h : Mv b u w) : Mv b u w.drew := h.trans ⟨rfl, rfl, rfl, Nat.le_refl _, fun _ _ _ => rfl⟩
theorem Mv.alloc {b : Nat} {u w : World} (h : Mv b u w) (o : Obj) : Mv b u (w.alloc o) := h.trans ⟨rfl, rfl, rfl, by simp, fun k hk _ => Below.heap_alloc _ _ _ hk⟩
theorem Mv.setCell {b : Nat} {u w : World} (h : Mv b u w) (i : Nat) (v : Value) : Mv b u (w.setCell ⟨b, i, none⟩ v) :=
  h.trans ⟨rfl, rfl, rfl, by simp [World.setCell], fun _ _ hb => Below.heap_setCell _ _ _ _ hb⟩
theorem Mv.below {b : Nat} {w w' : World} (h : Mv b w w') {B : Nat} (hB : B ≤ w.heap.size) (hb : B ≤ b) : Below B w w' :=
  ⟨h.os, h.tape, h.output, h.size, fun k hk => h.block k (by omega) (by omega)⟩
theorem ByteRow.mv {b : Nat} {w w' : World} {a : Option Addr} {n : Nat} {zs : List Int} (h : ByteRow w a n zs) (m : Mv b w w') (hne : ∀ g off, a = some ⟨g, off, none⟩ → g ≠ b) : ByteRow w' a n zs := by
  refine ⟨h.1, ?_⟩
  rcases h.2 with h | ⟨g, off, rfl, hlt, hc⟩
  · exact .inl h
  · refine .inr ⟨g, off, rfl, Nat.lt_of_lt_of_le hlt m.size, fun j hj => ?_⟩
    rw [World.cell?_of_block (w := w) (m.block g hlt (hne g off rfl))]
    exact hc j hj
theorem Rd.c0 {w : World} {b : Nat} {a : Option Addr} {n cap : Nat} {p d : Int} (h : Rd w b a n cap p d) : w.cell? ⟨b, 0, none⟩ = some (.slice a n cap) := by rw [cell_of_row w b 0 _ _ _ h]; rfl
theorem Rd.c1 {w : World} {b : Nat} {a : Option Addr} {n cap : Nat} {p d : Int} (h : Rd w b a n cap p d) : w.cell? ⟨b, 1, none⟩ = some (.int .i64 p) := by rw [cell_of_row w b 1 _ _ _ h]; rfl
theorem Rd.f1 {w : World} {b : Nat} {a : Option Addr} {n cap : Nat} {p d : Int} (h : Rd w b a n cap p d) : w.frozen? ⟨b, 1, none⟩ = false := frozen_of_row w b 1 _ _ h
theorem Rd.set {w : World} {b : Nat} {a : Option Addr} {n cap : Nat} {p d q : Int} (h : Rd w b a n cap p d) : Rd (w.setCell ⟨b, 1, none⟩ (.int .i64 q)) b a n cap q d := heap_setCell_same w b 1 _ _ _ h
theorem Rd.lt {w : World} {b : Nat} {a : Option Addr} {n cap : Nat} {p d : Int} (h : Rd w b a n cap p d) : b < w.heap.size := (Array.getElem?_eq_some_iff.1 h).1

/-- Is it white space? -/
def spc (c : Int) : Bool := c == 32 || c == 9 || c == 10 || c == 13
/-- White space from p up to k, and not beyond. -/
structure SkipTo (zs : List Int) (n p k : Nat) : Prop where
  lo : p ≤ k
  hi : k ≤ n
  all : ∀ j, p ≤ j → j < k → spc (zs.getD j 0) = true
  stop : k < n → spc (zs.getD k 0) = false

set_option maxHeartbeats 400000 in
theorem skip_walk (b : Nat) (a : Option Addr) (n cap p : Nat) (d : Int) (zs : List Int) (w : World) (hn : n ≤ maxLen) (hp : p ≤ n) (hrd : Rd w b a n cap p d) (hr : ByteRow w a n zs) (hne : ∀ g off, a = some ⟨g, off, none⟩ → g ≠ b) :
    Calls Tryf.prog 15 #[.pointer (some ⟨b, 0, none⟩)] w fun e w' => ∃ k : Nat, e = .returned (.int .i64 k) ∧ SkipTo zs n p k ∧ Rd w' b a n cap k d ∧ Mv b w w' := by
  unfold maxLen at hn
  have HRD : Hid (Rd w b a n cap p d) := hrd
  have HR : Hid (ByteRow w a n zs) := hr
  have HNE : Hid (∀ g off, a = some ⟨g, off, none⟩ → g ≠ b) := hne
  clear hrd hr hne
  go_enter Tryf.func15, Tryf.ntmps15
  go_wp2
  go_loopg [2] (n - p) (fun g v wr => ∃ k : Nat, v = .int .i64 0 ∧ g = n - k ∧ p ≤ k ∧ k ≤ n ∧ Hid (Rd wr b a n cap k d) ∧ Hid (Mv b w wr) ∧ Hid (∀ j, p ≤ j → j < k → spc (zs.getD j 0) = true))
  case atStart => exact ⟨p, rfl, rfl, Nat.le_refl _, hp, HRD, Mv.refl _ _, fun j h1 h2 => by omega⟩
  case round =>
    obtain ⟨k, rfl, hg, hpk, hkn, HK, HM, HA⟩ := hrel
    have c0 := HK.out.c0
    have c1 := HK.out.c1
    have f1 := HK.out.f1
    by_cases hlt : k < n
    · obtain ⟨g, off, ha, hgl, hcz⟩ := HR.out.2.resolve_left (by omega)
      obtain ⟨c, hc⟩ : ∃ c, c = zs.getD k 0 := ⟨_, rfl⟩
      have cz : wr.cell? ⟨g, off + k, none⟩ = some (.int .u8 c) := by
        rw [World.cell?_of_block (w := w) (HM.out.block g hgl (HNE.out g off ha)), hcz k hlt, hc]
      have HC : Hid (c = zs.getD k 0) := hc
      subst ha
      clear hc hcz
      go_wp2
      go_quiet (fail)
      go_wp2
      go_quiet (fail)
      go_wp2
      any_goals
        go_roundg (n - (k + 1))
        case measure => omega
        case rel =>
          refine ⟨k + 1, rfl, rfl, by omega, by omega, ?_, (HM.out.drewN _).setCell 1 _, fun j h1 h2 => ?_⟩
          · exact (show Rd (wr.drewN _) b (some ⟨g, off, none⟩) n cap k d from HK.out).set
          · by_cases e : j = k
            · subst e; rw [← HC.out]; simp [spc, *]
            · exact HA.out j h1 (by omega)
      go_ret
      exact ⟨k, rfl, ⟨hpk, hkn, HA.out, fun _ => by rw [← HC.out]; simp [spc, *]⟩, HK.out, HM.out.drewN _⟩
    · go_wp2
      go_quiet (fail)
      go_wp2
      go_ret
      exact ⟨k, rfl, ⟨hpk, hkn, HA.out, fun h => absurd h hlt⟩, HK.out, HM.out.drewN _⟩
end Go.Proofs.Qxb6628830aFmt
