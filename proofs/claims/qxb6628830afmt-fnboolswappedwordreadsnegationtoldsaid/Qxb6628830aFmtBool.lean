/-
  The walks of '(Reader).errorAt' (17), 'unexpected' (13) and 'Bool' (7).
-/
import Derived.Test.Qxb6628830aFmtLit
import Derived.Deep.RegionHeld3
namespace Go.Proofs.Qxb6628830aFmt
open Go.RowKit Go.Extern.Stop Go.Stop Go.Extern

/-- An error that is not nil has been returned. -/
def RetErr (e : Ending) : Prop := ∃ ad, e = .returned (.iface 44 (.pointer (some ad)))
theorem RetErr.mk (ad : Addr) : RetErr (.returned (.iface 44 (.pointer (some ad)))) := ⟨ad, rfl⟩

set_option maxHeartbeats 400000 in
theorem errorAt_walk (F : Interp) (v : Value) (i : Int) (s : ByteArray) (w : World) (hF : F.answers w.tape) :
    Calls Tryf.prog 17 #[v, .int .i64 i, .string s] w fun e w' => RetErr e ∧ Below w.heap.size w w' := by
  have hF' := answers_open hF
  go_enter Tryf.func17, Tryf.ntmps17
  go_wp2
  go_ret
  exact ⟨RetErr.mk _, (((Below.refl _ w).alloc (Nat.le_refl _) _).alloc (by simp) _).drew⟩

theorem errorAt_keep (F : Interp) (v : Value) (i : Int) (s : ByteArray) (w : World) (hF : F.answers w.tape) :
    Calls Tryf.prog 17 #[v, .int .i64 i, .string s] w fun e w' => RetErr e ∧ Below w.heap.size w w' ∧ ∀ a u, w.cell? a = some u → w'.cell? a = some u := by
  refine (errorAt_walk F v i s w hF).mono ?_
  rintro e w' ⟨h1, h2⟩
  exact ⟨h1, h2, fun a u h => by rw [h2.cell (World.block_lt_of_cell? _ _ h)]; exact h⟩

theorem Rd.drewN {w : World} {b : Nat} {a : Option Addr} {n cap : Nat} {p d : Int} (h : Rd w b a n cap p d) (m : Nat) : Rd (w.drewN m) b a n cap p d := h
theorem ByteRow.drewN {w : World} {a : Option Addr} {n : Nat} {zs : List Int} (h : ByteRow w a n zs) (m : Nat) : ByteRow (w.drewN m) a n zs := h

set_option maxHeartbeats 400000 in
theorem unexpected_end (F : Interp) (b : Nat) (a : Option Addr) (n cap : Nat) (d : Int) (zs : List Int) (s : ByteArray) (w : World) (hs : s.size ≤ 100) (hF : F.answers w.tape) (hsk : SkipTo zs n n n) (hrd : Rd w b a n cap n d) (hr : ByteRow w a n zs) :
    Calls Tryf.prog 13 #[.pointer (some ⟨b, 0, none⟩), .string s] w fun e w' => RetErr e ∧ Below w.heap.size w w' := by
  have HF : Hid (F.answers w.tape) := hF
  have HSK : Hid (SkipTo zs n n n) := hsk
  have HRD : Hid (Rd w b a n cap n d) := hrd
  have HR : Hid (ByteRow w a n zs) := hr
  have c0 := hrd.c0
  have c1 := hrd.c1
  clear hF hsk hrd hr
  go_enter Tryf.func13, Tryf.ntmps13
  go_wp2
  go_quiet ((go_at_call 15; refine Calls.quiet_of (skip_here b a n cap n d zs _ HSK.out (HRD.out.drewN _) (HR.out.drewN _))))
  go_wp2_with fail
  refine (errorAt_walk F _ _ _ _ (by exact HF.out)).mono ?_
  rintro e w1 ⟨⟨ad, rfl⟩, hb⟩
  have HB : Hid (Below w.heap.size w w1) := (below_drewN (Below.refl _ w) _).trans hb
  clear hb
  go_wp2
  go_ret
  exact ⟨RetErr.mk _, HB.out⟩

set_option maxHeartbeats 400000 in
theorem unexpected_here (F : Interp) (b g off n cap k : Nat) (d : Int) (zs : List Int) (c : Int) (s : ByteArray) (w : World) (hF : F.answers w.tape) (hsk : SkipTo zs n k k) (hk : k < n) (hrd : Rd w b (some ⟨g, off, none⟩) n cap k d) (hr : ByteRow w (some ⟨g, off, none⟩) n zs)
    (hc : w.cell? ⟨g, off + k, none⟩ = some (.int .u8 c)) :
    Calls Tryf.prog 13 #[.pointer (some ⟨b, 0, none⟩), .string s] w fun e w' => RetErr e ∧ Below w.heap.size w w' := by
  have HF : Hid (F.answers w.tape) := hF
  have hF' := answers_open hF
  have HSK : Hid (SkipTo zs n k k) := hsk
  have HRD : Hid (Rd w b (some ⟨g, off, none⟩) n cap k d) := hrd
  have HR : Hid (ByteRow w (some ⟨g, off, none⟩) n zs) := hr
  have c0 := hrd.c0
  have c1 := hrd.c1
  have hkn : ((k : Int) == (n : Int)) = false := by simp; omega
  clear hF hsk hrd hr
  go_enter Tryf.func13, Tryf.ntmps13
  go_wp2
  go_quiet ((go_at_call 15; refine Calls.quiet_of (skip_here b _ n cap k d zs _ HSK.out (HRD.out.drewN _) (HR.out.drewN _))))
  go_wp2
  obtain ⟨w0, hw0⟩ : ∃ w0, w0 = w.drewN nq := ⟨_, rfl⟩
  rw [← hw0]
  have HB0 : Hid (Below w.heap.size w w0) := by rw [hw0]; exact below_drewN (Below.refl _ w) _
  have HF0 : Hid (F.answers w0.tape) := by rw [hw0]; exact HF.out
  have d0 : w0.cell? ⟨b, 0, none⟩ = some (.slice (some ⟨g, off, none⟩) n cap) := by rw [hw0]; exact c0
  have d1 : w0.cell? ⟨b, 1, none⟩ = some (.int .i64 k) := by rw [hw0]; exact c1
  have dc : w0.cell? ⟨g, off + k, none⟩ = some (.int .u8 c) := by rw [hw0]; exact hc
  have hF0 := answers_open HF0.out
  clear hF' c0 c1 hc hw0
  go_region_held3 (fun w' => w'.cell? ⟨b, 0, none⟩ = some (.slice (some ⟨g, off, none⟩) n cap) ∧ w'.cell? ⟨b, 1, none⟩ = some (.int .i64 k) ∧ w'.cell? ⟨g, off + k, none⟩ = some (.int .u8 c))
    (first | go_keep | exact ⟨hkeep _ _ (by go_keep), hkeep _ _ (by go_keep), hkeep _ _ (by go_keep)⟩)
    (first | (go_at_call 17; refine (errorAt_keep F _ _ _ _ (by exact HF0.out)).mono ?_; rintro e w1 ⟨⟨ad, rfl⟩, hb, hkeep⟩))
  have HB1 : Hid (Below w.heap.size w w1) := by
    have hsz := HB0.out.size
    refine HB0.out.trans (((((Below.refl _ w0).drew).alloc (by exact hsz) _).drew).trans (hb.mono (by simp; omega)))
  clear hb hkeep
  go_wp2
  go_ret
  exact ⟨RetErr.mk _, HB1.out⟩

theorem unexpected_any (F : Interp) (b : Nat) (a : Option Addr) (n cap k : Nat) (d : Int) (zs : List Int) (s : ByteArray) (w : World) (hs : s.size ≤ 100) (hF : F.answers w.tape) (hsk : SkipTo zs n k k) (hrd : Rd w b a n cap k d) (hr : ByteRow w a n zs) :
    Calls Tryf.prog 13 #[.pointer (some ⟨b, 0, none⟩), .string s] w fun e w' => RetErr e ∧ Below w.heap.size w w' := by
  by_cases hk : k < n
  · obtain ⟨g, off, rfl, _, hc⟩ := hr.2.resolve_left (by omega)
    exact unexpected_here F b g off n cap k d zs _ s w hF hsk hk hrd hr (hc k hk)
  · obtain rfl : k = n := by have := hsk.hi; omega
    exact unexpected_end F b a k cap d zs s w hs hF hsk hrd hr

theorem Mv.of_below {w w' : World} (h : Below w.heap.size w w') (b : Nat) : Mv b w w' := ⟨h.os, h.tape, h.output, h.size, fun k hk _ => h.block k hk⟩
theorem Rd.below {w w' : World} {b : Nat} {a : Option Addr} {n cap : Nat} {p d : Int} (h : Rd w b a n cap p d) (hb : Below w.heap.size w w') : Rd w' b a n cap p d := (hb.block b h.lt).trans h

abbrev tr : List UInt8 := [116, 114, 117, 101]
abbrev fa : List UInt8 := [102, 97, 108, 115, 101]

set_option maxHeartbeats 400000 in
theorem bool_true (b : Nat) (a : Option Addr) (n cap p k : Nat) (d : Int) (bs : List UInt8) (w : World) (hn : n ≤ 1048577) (hncap : n ≤ cap) (hsk : SkipTo (ints bs) n p k) (hrd : Rd w b a n cap p d) (hr : ByteRow w a n (ints bs)) (hne : ∀ g off, a = some ⟨g, off, none⟩ → g ≠ b)
    (ht : tr.isPrefixOf (bs.drop k) = true) :
    Calls Tryf.prog 7 #[.pointer (some ⟨b, 0, none⟩)] w fun e w' => e = .returned (.tuple #[.bool true, .nilIface]) ∧ Rd w' b a n cap (k + 4) d ∧ Mv b w w' := by
  have H1 : Hid (∀ (word : ByteArray), word.size ≤ 16 → word.data.toList.isPrefixOf (bs.drop k) = true → Calls Tryf.prog 12 #[.pointer (some ⟨b, 0, none⟩), .string word] w fun e w' => e = .returned (.bool true) ∧ Rd w' b a n cap (k + word.size) d ∧ Mv b w w') :=
    fun word hw hp => literal_walk b a n cap p k d bs word true w hn hw hncap hsk hrd hr hne hp
  have HT : Hid (tr.isPrefixOf (bs.drop k) = true) := ht
  clear hn hncap hsk hrd hr hne ht
  go_enter Tryf.func7, Tryf.ntmps7
  go_wp2_with fail
  refine (H1.out ⟨#[116, 114, 117, 101]⟩ (by decide) HT.out).mono ?_
  rintro e w1 ⟨rfl, hrd, hmv⟩
  have HA : Hid (Rd w1 b a n cap (k + 4) d ∧ Mv b w w1) := ⟨hrd, hmv⟩
  clear hrd hmv
  go_wp2
  go_ret2
  exact ⟨rfl, HA.out⟩

set_option maxHeartbeats 400000 in
theorem bool_false (b : Nat) (a : Option Addr) (n cap p k : Nat) (d : Int) (bs : List UInt8) (w : World) (hn : n ≤ 1048577) (hncap : n ≤ cap) (hsk : SkipTo (ints bs) n p k) (hrd : Rd w b a n cap p d) (hr : ByteRow w a n (ints bs)) (hne : ∀ g off, a = some ⟨g, off, none⟩ → g ≠ b)
    (ht : tr.isPrefixOf (bs.drop k) = false) (hf : fa.isPrefixOf (bs.drop k) = true) :
    Calls Tryf.prog 7 #[.pointer (some ⟨b, 0, none⟩)] w fun e w' => e = .returned (.tuple #[.bool false, .nilIface]) ∧ Rd w' b a n cap (k + 5) d ∧ Mv b w w' := by
  have H1 : Hid (∀ (word : ByteArray), word.size ≤ 16 → word.data.toList.isPrefixOf (bs.drop k) = false → Calls Tryf.prog 12 #[.pointer (some ⟨b, 0, none⟩), .string word] w fun e w' => e = .returned (.bool false) ∧ Rd w' b a n cap k d ∧ Mv b w w') :=
    fun word hw hp => literal_walk b a n cap p k d bs word false w hn hw hncap hsk hrd hr hne hp
  have H2 : Hid (∀ (w1 : World) (word : ByteArray), Rd w1 b a n cap k d → Mv b w w1 → word.size ≤ 16 → word.data.toList.isPrefixOf (bs.drop k) = true → Calls Tryf.prog 12 #[.pointer (some ⟨b, 0, none⟩), .string word] w1 fun e w' => e = .returned (.bool true) ∧ Rd w' b a n cap (k + word.size) d ∧ Mv b w1 w') :=
    fun w1 word h1 h2 hw hp => literal_walk b a n cap k k d bs word true w1 hn hw hncap hsk.self h1 (hr.mv h2 hne) hne hp
  have HT : Hid (tr.isPrefixOf (bs.drop k) = false ∧ fa.isPrefixOf (bs.drop k) = true) := ⟨ht, hf⟩
  clear hn hncap hsk hrd hr hne ht hf
  go_enter Tryf.func7, Tryf.ntmps7
  go_wp2_with fail
  refine (H1.out ⟨#[116, 114, 117, 101]⟩ (by decide) HT.out.1).mono ?_
  rintro e w1 ⟨rfl, hrd, hmv⟩
  have HA : Hid (Rd w1 b a n cap k d ∧ Mv b w w1) := ⟨hrd, hmv⟩
  clear hrd hmv
  go_wp2_with fail
  refine (H2.out w1 ⟨#[102, 97, 108, 115, 101]⟩ HA.out.1 HA.out.2 (by decide) HT.out.2).mono ?_
  rintro e w2 ⟨rfl, hrd, hmv⟩
  have HA2 : Hid (Rd w2 b a n cap (k + 5) d ∧ Mv b w w2) := ⟨hrd, HA.out.2.trans hmv⟩
  clear hrd hmv
  go_wp2
  go_ret2
  exact ⟨rfl, HA2.out⟩

set_option maxHeartbeats 400000 in
theorem bool_err (F : Interp) (b : Nat) (a : Option Addr) (n cap p k : Nat) (d : Int) (bs : List UInt8) (w : World) (hF : F.answers w.tape) (hn : n ≤ 1048577) (hncap : n ≤ cap) (hsk : SkipTo (ints bs) n p k) (hrd : Rd w b a n cap p d) (hr : ByteRow w a n (ints bs)) (hne : ∀ g off, a = some ⟨g, off, none⟩ → g ≠ b)
    (ht : tr.isPrefixOf (bs.drop k) = false) (hf : fa.isPrefixOf (bs.drop k) = false) :
    Calls Tryf.prog 7 #[.pointer (some ⟨b, 0, none⟩)] w fun e w' => (∃ ad, e = .returned (.tuple #[.bool false, .iface 44 (.pointer (some ad))])) ∧ Rd w' b a n cap k d ∧ Mv b w w' := by
  have H1 : Hid (∀ (word : ByteArray), word.size ≤ 16 → word.data.toList.isPrefixOf (bs.drop k) = false → Calls Tryf.prog 12 #[.pointer (some ⟨b, 0, none⟩), .string word] w fun e w' => e = .returned (.bool false) ∧ Rd w' b a n cap k d ∧ Mv b w w') :=
    fun word hw hp => literal_walk b a n cap p k d bs word false w hn hw hncap hsk hrd hr hne hp
  have H2 : Hid (∀ (w1 : World) (word : ByteArray), Rd w1 b a n cap k d → Mv b w w1 → word.size ≤ 16 → word.data.toList.isPrefixOf (bs.drop k) = false → Calls Tryf.prog 12 #[.pointer (some ⟨b, 0, none⟩), .string word] w1 fun e w' => e = .returned (.bool false) ∧ Rd w' b a n cap k d ∧ Mv b w1 w') :=
    fun w1 word h1 h2 hw hp => literal_walk b a n cap k k d bs word false w1 hn hw hncap hsk.self h1 (hr.mv h2 hne) hne hp
  have H3 : Hid (∀ (w1 : World) (s : ByteArray), Rd w1 b a n cap k d → Mv b w w1 → s.size ≤ 100 → Calls Tryf.prog 13 #[.pointer (some ⟨b, 0, none⟩), .string s] w1 fun e w' => RetErr e ∧ Below w1.heap.size w1 w') :=
    fun w1 s h1 h2 hs => unexpected_any F b a n cap k d (ints bs) s w1 hs (by rw [h2.tape]; exact hF) hsk.self h1 (hr.mv h2 hne)
  have HT : Hid (tr.isPrefixOf (bs.drop k) = false ∧ fa.isPrefixOf (bs.drop k) = false) := ⟨ht, hf⟩
  clear hn hncap hsk hrd hr hne ht hf hF
  go_enter Tryf.func7, Tryf.ntmps7
  go_wp2_with fail
  refine (H1.out ⟨#[116, 114, 117, 101]⟩ (by decide) HT.out.1).mono ?_
  rintro e w1 ⟨rfl, hrd, hmv⟩
  have HA : Hid (Rd w1 b a n cap k d ∧ Mv b w w1) := ⟨hrd, hmv⟩
  clear hrd hmv
  go_wp2_with fail
  refine (H2.out w1 ⟨#[102, 97, 108, 115, 101]⟩ HA.out.1 HA.out.2 (by decide) HT.out.2).mono ?_
  rintro e w2 ⟨rfl, hrd, hmv⟩
  have HA2 : Hid (Rd w2 b a n cap k d ∧ Mv b w w2) := ⟨hrd, HA.out.2.trans hmv⟩
  clear hrd hmv
  go_wp2_with fail
  refine (H3.out w2 ⟨#[116, 114, 117, 101, 32, 111, 114, 32, 102, 97, 108, 115, 101]⟩ HA2.out.1 HA2.out.2 (by decide)).mono ?_
  rintro e w3 ⟨⟨ad, rfl⟩, hb⟩
  have HA3 : Hid (Rd w3 b a n cap k d ∧ Mv b w w3) := ⟨HA2.out.1.below hb, HA2.out.2.trans (Mv.of_below hb b)⟩
  clear hb
  go_wp2
  go_ret2
  exact ⟨⟨ad, rfl⟩, HA3.out⟩
end Go.Proofs.Qxb6628830aFmt
