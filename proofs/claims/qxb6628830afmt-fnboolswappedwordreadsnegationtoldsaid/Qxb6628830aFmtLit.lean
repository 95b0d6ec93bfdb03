/-
  The walk of '(Reader).literal' (12).
-/
import Derived.Test.Qxb6628830aFmtSkip2
import Derived.Test.Qxb6628830aFmtShelf
namespace Go.Proofs.Qxb6628830aFmt
open Go.RowKit

/-- Bytes as numbers. -/
def ints (bs : List UInt8) : List Int := bs.map fun b => (b.toNat : Int)
theorem ints_length (bs : List UInt8) : (ints bs).length = bs.length := by simp [ints]
theorem ints_drop (bs : List UInt8) (k : Nat) : (ints bs).drop k = ints (bs.drop k) := by simp [ints]
theorem bytesOf_ints (bs : List UInt8) : Lib.bytesOf (ints bs) = bs := by
  simp [Lib.bytesOf, ints, Function.comp_def]

theorem ByteRow.tail {w : World} {a : Option Addr} {n k : Nat} {zs : List Int} (h : ByteRow w a n zs) (hk : k ≤ n) : Lib.BytesIn w (Option.map (fun x : Addr => x.add k) a) (n - k) (zs.drop k) := by
  intro hn
  obtain ⟨b, off, rfl, _, hc⟩ := h.2.resolve_left (by omega)
  refine ⟨b, off + k, by simp [Addr.add], fun i hi => ?_⟩
  rw [Nat.add_assoc, hc (k + i) (by omega)]
  simp [List.getD]
theorem ByteRow.alloc {w : World} {a : Option Addr} {n : Nat} {zs : List Int} (h : ByteRow w a n zs) (o : Obj) : ByteRow (w.alloc o) a n zs := by
  refine ⟨h.1, ?_⟩
  rcases h.2 with h | ⟨g, off, rfl, hlt, hc⟩
  · exact .inl h
  · exact .inr ⟨g, off, rfl, by simp; omega, fun j hj => by rw [World.cell?_alloc_past _ _ _ hlt]; exact hc j hj⟩

theorem Rd.alloc' {w : World} {b : Nat} {a : Option Addr} {n cap : Nat} {p d : Int} (h : Rd w b a n cap p d) (o : Obj) : Rd (w.alloc o).drew b a n cap p d := by
  show (w.alloc o).heap[b]? = _
  rw [Below.heap_alloc _ _ _ h.lt]; exact h

theorem word_in (w : World) (word : ByteArray) (c : Nat) (fr : Nat × Nat) : Lib.BytesIn (w.alloc (.cells (bytesRow word c) 5 fr)).drew (some ⟨w.heap.size, 0, none⟩) word.size (ints word.data.toList) := by
  intro _
  refine ⟨w.heap.size, 0, rfl, fun i hi => ?_⟩
  show (w.alloc (.cells (bytesRow word c) 5 fr)).cell? _ = _
  rw [World.cell?_alloc_mark, Nat.zero_add, bytesRow, Array.getElem?_append_left (by simpa using hi)]
  have hi' : i < word.data.size := hi
  simp [ints, List.getD, Array.getElem?_eq_getElem hi']

set_option maxHeartbeats 400000 in
theorem literal_walk (b : Nat) (a : Option Addr) (n cap p k : Nat) (d : Int) (bs : List UInt8) (word : ByteArray) (r : Bool) (w : World) (hn : n ≤ 1048577) (hws : word.size ≤ 16) (hncap : n ≤ cap) (hsk : SkipTo (ints bs) n p k) (hrd : Rd w b a n cap p d) (hr : ByteRow w a n (ints bs)) (hne : ∀ g off, a = some ⟨g, off, none⟩ → g ≠ b)
    (hres : word.data.toList.isPrefixOf (bs.drop k) = r) :
    Calls Tryf.prog 12 #[.pointer (some ⟨b, 0, none⟩), .string word] w fun e w' => e = .returned (.bool r) ∧ Rd w' b a n cap (if r then k + word.size else k) d ∧ Mv b w w' := by
  have HRD : Hid (Rd w b a n cap p d) := hrd
  have HR : Hid (ByteRow w a n (ints bs)) := hr
  have HNE : Hid (∀ g off, a = some ⟨g, off, none⟩ → g ≠ b) := hne
  have HSK : Hid (SkipTo (ints bs) n p k) := hsk
  have HRES : Hid (word.data.toList.isPrefixOf (bs.drop k) = r) := hres
  have hkn : k ≤ n := hsk.hi
  clear hrd hr hne hsk hres
  have hconv := fun (w : World) => run_bytes_of_string (P := Tryf.prog) w 9 22 5 word Tryf.underlying9 Tryf.underlying22 Tryf.underlying5
  go_enter Tryf.func12, Tryf.ntmps12
  go_wp2_with fail
  refine (skip_at b a n cap p k d (ints bs) w (by unfold maxLen; omega) HSK.out HRD.out HR.out HNE.out).mono ?_
  rintro e w1 ⟨rfl, hrd, hmv⟩
  have HRD1 : Hid (Rd w1 b a n cap k d) := hrd
  have HM1 : Hid (Mv b w w1) := hmv
  have HR1 : Hid (ByteRow w1 a n (ints bs)) := HR.out.mv hmv HNE.out
  have c0 := hrd.c0
  have c1 := hrd.c1
  have f1 := hrd.f1
  have hbl : b < w1.heap.size := hrd.lt
  clear hrd hmv
  have fin : ∀ (p1 : Option Addr) (c1 : Nat) (o : Obj), n - k ≤ c1 → o = Obj.cells (bytesRow word (grownCap w1 word.size 0 5)) 5 ((bytesRow word (grownCap w1 word.size 0 5)).size, (bytesRow word (grownCap w1 word.size 0 5)).size + 1) →
      Lib.BytesIn w1 p1 (n - k) ((ints bs).drop k) →
      Calls Tryf.prog 16 #[.slice p1 (n - k) c1, .slice (some ⟨w1.heap.size, 0, none⟩) word.size (grownCap w1 word.size 0 5)] (w1.alloc o).drew fun e w' => e = .returned (.bool r) ∧ w' = (w1.alloc o).drew := by
    intro p1 c1 o hc ho hin
    have h1 : Lib.BytesIn (w1.alloc o).drew p1 (n - k) ((ints bs).drop k) := by
      intro h0
      obtain ⟨g, off, e1, e2⟩ := hin h0
      refine ⟨g, off, e1, fun i hi => ?_⟩
      show (w1.alloc o).cell? _ = _
      have := e2 i hi
      rw [World.cell?_alloc_past _ _ _ (World.block_lt_of_cell? _ _ this)]
      exact this
    have h2 : Lib.BytesIn (w1.alloc o).drew (some ⟨w1.heap.size, 0, none⟩) word.size (ints word.data.toList) := by
      subst ho; exact word_in _ _ _ _
    refine (Tryf.bytes_HasPrefix_all p1 _ (n - k) c1 word.size _ _ _ _ (by rw [List.length_drop, HR1.out.1]) (by rw [ints_length]; rfl) hc h1 h2).mono ?_
    rintro e w' ⟨rfl, rfl⟩
    refine ⟨?_, rfl⟩
    rw [ints_drop, bytesOf_ints, bytesOf_ints, Lib.hasPrefix, HRES.out]
  have HFIN : Hid (∀ (p1 : Option Addr) (c1 : Nat) (o : Obj), n - k ≤ c1 → o = Obj.cells (bytesRow word (grownCap w1 word.size 0 5)) 5 ((bytesRow word (grownCap w1 word.size 0 5)).size, (bytesRow word (grownCap w1 word.size 0 5)).size + 1) →
      Lib.BytesIn w1 p1 (n - k) ((ints bs).drop k) →
      Calls Tryf.prog 16 #[.slice p1 (n - k) c1, .slice (some ⟨w1.heap.size, 0, none⟩) word.size (grownCap w1 word.size 0 5)] (w1.alloc o).drew fun e w' => e = .returned (.bool r) ∧ w' = (w1.alloc o).drew) := fin
  clear fin
  by_cases hck : cap = k
  · subst hck
    go_wp2_with fail
    have e0 : n - cap = 0 := by omega
    have hf := HFIN.out a 0 _ (by omega) rfl (by rw [e0]; exact Lib.BytesIn.nil _ _ _)
    rw [e0] at hf
    refine hf.mono ?_
    clear hf
    rintro e w2 ⟨rfl, rfl⟩
    cases r with
    | false =>
      go_wp2
      go_ret
      exact ⟨rfl, HRD1.out.alloc' _, (HM1.out.alloc _).drew⟩
    | true =>
      go_wp2
      go_ret
      exact ⟨rfl, HRD1.out.set.alloc' _, ((HM1.out.setCell 1 _).alloc _).drew⟩
  · go_wp2_with fail
    refine (HFIN.out _ (cap - k) _ (by omega) rfl (HR1.out.tail hkn)).mono ?_
    rintro e w2 ⟨rfl, rfl⟩
    cases r with
    | false =>
      go_wp2
      go_ret
      exact ⟨rfl, HRD1.out.alloc' _, (HM1.out.alloc _).drew⟩
    | true =>
      go_wp2
      go_ret
      exact ⟨rfl, HRD1.out.set.alloc' _, ((HM1.out.setCell 1 _).alloc _).drew⟩
end Go.Proofs.Qxb6628830aFmt
