/-
  The walk of 'slot' (17, 13).
-/
import Derived.Test.Qxb6628906aSet
import Derived.Lib.Strings
set_option linter.unusedVariables false
namespace Go.Proofs.Qxb6628906a
open Go.RowKit

theorem drewN_add (w : World) (a b : Nat) : (w.drewN a).drewN b = w.drewN (a + b) := World.drewN_drewN _ _ _
theorem ByteRow.drewN {w : World} {a : Option Addr} {n : Nat} {zs : List Int} (h : ByteRow w a n zs) (m : Nat) : ByteRow (w.drewN m) a n zs := ⟨h.1, h.2⟩
theorem beq_no {a b : ByteArray} (h : a ≠ b) : (a.toList == b.toList) = false := by
  rw [beq_eq_false_iff_ne]
  intro e
  apply h
  rw [Lib.toList_data, Lib.toList_data] at e
  obtain ⟨⟨l⟩⟩ := a
  obtain ⟨⟨k⟩⟩ := b
  simp only at e
  rw [e]
theorem beq_yes {a b : ByteArray} (h : a = b) : (a.toList == b.toList) = true := by subst h; exact beq_self_eq_true _

set_option maxHeartbeats 1000000 in
theorem slot_any (b fb eb tb : Nat) (F : List Nat) (T : ByteArray) (E tab : List Nat) (ss : List ByteArray) (a : Option Addr) (cap : Nat) (x : ByteArray) (h ex p J : Nat) (w : World) (hh : h < 18446744073709551616)
    (hts : tab.length = 2 ^ ex) (hlen : tab.length ≤ 1048576) (hn : E.length ≤ 65536) (hs : SetAt w b fb eb tb F T E tab) (hT : Spells ss T E) (hr : ByteRow w a x.size (ints x)) (hle : ∀ p, at' tab p ≤ E.length) (hsl : SlotAt ss tab tab.length (h / 65536) x p J) :
    Calls Try.prog 17 #[.pointer (some ⟨b, 0, none⟩), .slice a x.size cap, .int .u64 (h : Int)] w fun e w' => e = .returned (.int .i64 (p : Int)) ∧ ∃ m, w' = w.drewN m := by
  have hpos : 1 ≤ tab.length := by rw [hts]; exact Nat.one_le_two_pow
  have HS : Hid (SetAt w b fb eb tb F T E tab) := hs
  have HT : Hid (Spells ss T E) := hT
  have HR : Hid (ByteRow w a x.size (ints x)) := hr
  have HLE : Hid (∀ p, at' tab p ≤ E.length) := hle
  have HSL : Hid (SlotAt ss tab tab.length (h / 65536) x p J) := hsl
  obtain ⟨s, hsd⟩ : ∃ s, s = h / 65536 := ⟨_, rfl⟩
  rw [← hsd] at HSL
  have c3 := hs.c3
  obtain ⟨ts, htsd⟩ : ∃ ts, ts = tab.length := ⟨_, rfl⟩
  have HTS : Hid (ts = tab.length) := htsd
  rw [← htsd] at hts hpos hlen c3 HSL
  have hmask : ∀ a : Nat, a < 9223372036854775808 → bits .and .i64 (a : Int) ((ts : Int) - 1) = ((a % ts : Nat) : Int) := fun a ha => by
    rw [show ((ts : Int) - 1) = ((ts - 1 : Nat) : Int) by omega, bits_and_i64_nat a _ ha (by omega), hts, and_mask]
  have HM : Hid (∀ a : Nat, a < 9223372036854775808 → bits .and .i64 (a : Int) ((ts : Int) - 1) = ((a % ts : Nat) : Int)) := hmask
  have hsb : s < 281474976710656 := by omega
  have e0 : bits .and .i64 ((h : Int) / 65536) ((ts : Int) - 1) = ((s % ts : Nat) : Int) := by
    rw [show ((h : Int) / 65536) = (s : Int) by omega]; exact hmask s (by omega)
  clear hs hT hr hle hsl hmask htsd hts hsd
  go_enter Try.func17, Try.ntmps17
  go_wp2
  clear e0
  go_loopg [8] J (fun g v wr => ∃ (i m : Nat), g = J - i ∧ i ≤ J ∧ v = .int .i64 (((s + i) % ts : Nat) : Int) ∧ wr = w.drewN m)
  case atStart => exact ⟨0, 0, by simp, by omega, by simp, by first | rfl | simp⟩
  case round =>
    obtain ⟨i, m, hg, hiJ, rfl, hwr⟩ := hrel
    have HS2 : Hid (SetAt wr b fb eb tb F T E tab) := by show SetAt _ _ _ _ _ _ _ _ _; rw [hwr]; exact HS.out.drewN m
    have HR2 : Hid (ByteRow wr a x.size (ints x)) := by
      show ByteRow _ _ _ _; rw [hwr]
      refine ⟨HR.out.1, HR.out.2⟩
    have HWR : Hid (wr = w.drewN m) := hwr
    clear hwr
    obtain ⟨q, hq⟩ : ∃ q, q = (s + i) % ts := ⟨_, rfl⟩
    have hqt : q < ts := by rw [hq]; exact Nat.mod_lt _ (by omega)
    have HQ : Hid (q = (s + i) % ts) := hq
    rw [← hq]
    clear hq
    have c3' := HS2.out.c3
    rw [← HTS.out] at c3'
    have tc := HS2.out.tc q (by rw [← HTS.out]; exact hqt)
    obtain ⟨v, hv⟩ : ∃ v, v = at' tab q := ⟨_, rfl⟩
    have HV : Hid (v = at' tab q) := hv
    have hvb : v ≤ 65536 := by rw [hv]; exact Nat.le_trans (HLE.out q) hn
    rw [← hv] at tc
    clear hv
    by_cases hv0 : v = 0
    · have hstop : Stop ss tab x q := .inl (by rw [← HV.out]; exact hv0)
      have hij : i = J := by
        rcases Nat.lt_or_ge i J with hlt | hge
        · exact absurd (by rw [← HQ.out]; exact hstop) (HSL.out.go i hlt)
        · omega
      have HP : Hid (q = p) := by show q = p; rw [HQ.out, HSL.out.here, hij]
      have hve : ((v : Int) == 0) = true := by simp; exact hv0
      clear hv0 hstop hij
      go_wp2
      go_quiet (fail)
      go_wp2
      go_ret
      exact ⟨by rw [← HP.out]; rfl, _, by rw [HWR.out, drewN_add]⟩
    · obtain ⟨u, hu⟩ : ∃ u, v = u + 1 := ⟨v - 1, by omega⟩
      subst hu
      have hul : u < E.length := by have := HLE.out q; rw [← HV.out] at this; omega
      obtain ⟨kk, hkk⟩ : ∃ kk, kk = key ss u := ⟨_, rfl⟩
      have HKK : Hid (kk = key ss u) := hkk
      have HID : Hid (∀ m', Calls Try.prog 10 #[.pointer (some ⟨b, 0, none⟩), .int .i64 (u : Int)] (wr.drewN m') fun e w' => e = .returned (.string kk) ∧ ∃ m, w' = (wr.drewN m').drewN m) := fun m' => by
        rw [hkk]; exact id_any b fb eb tb F T E tab ss _ u hul hn (HS2.out.drewN m') HT.out
      have hcv : ∀ m', (convert 23 9 (.slice a x.size cap)).run Try.prog (wr.drewN m') = .ok (.string x) (wr.drewN m') := fun m' => conv_key (HR2.out.drewN m') cap
      clear hkk
      have hve : (((u : Int) + 1) == 0) = false := by simp; omega
      have hwu : IntKind.u32.wrap (u : Int) = (u : Int) := by rw [IntKind.wrap_u32]; omega
      have hwi : IntKind.i64.wrap (u : Int) = (u : Int) := by rw [IntKind.wrap_i64]; omega
      by_cases hx : kk = x
      · have hstop : Stop ss tab x q := .inr (by rw [← HV.out, Nat.add_sub_cancel, ← HKK.out]; exact hx)
        have hij : i = J := by
          rcases Nat.lt_or_ge i J with hlt | hge
          · exact absurd (by rw [← HQ.out]; exact hstop) (HSL.out.go i hlt)
          · omega
        have HP : Hid (q = p) := by show q = p; rw [HQ.out, HSL.out.here, hij]
        have hbq := beq_yes hx
        clear hstop hij hx
        go_wp2
        go_quiet ((go_at_call 10; refine Calls.quiet_of (HID.out _)))
        go_wp2
        go_ret
        exact ⟨by rw [← HP.out]; rfl, _, by rw [HWR.out, drewN_add]⟩
      · have hbq := beq_no hx
        have hij : i < J := by
          rcases Nat.lt_or_ge i J with hlt | hge
          · exact hlt
          · exfalso
            have hiJ' : i = J := by omega
            have hst := HSL.out.stop
            rw [HSL.out.here, ← hiJ', ← HQ.out] at hst
            unfold Stop at hst
            rw [← HV.out, Nat.add_sub_cancel, ← HKK.out] at hst
            rcases hst with h | h
            · omega
            · exact hx h
        have hnx : bits .and .i64 ((q : Int) + 1) ((ts : Int) - 1) = (((s + (i + 1)) % ts : Nat) : Int) := by
          rw [show ((q : Int) + 1) = ((q + 1 : Nat) : Int) by omega, HM.out (q + 1) (by omega), HQ.out, Nat.mod_add_mod, Nat.add_assoc]
        obtain ⟨q2, hq2⟩ : ∃ q2, q2 = (s + (i + 1)) % ts := ⟨_, rfl⟩
        have HQ2 : Hid (q2 = (s + (i + 1)) % ts) := hq2
        rw [← hq2] at hnx
        clear hx hq2
        go_wp2
        go_quiet ((go_at_call 10; refine Calls.quiet_of (HID.out _)))
        go_wp2
        go_roundg (J - (i + 1))
        case measure => omega
        case rel => exact ⟨i + 1, _, rfl, by omega, by rw [HQ2.out], by rw [HWR.out, drewN_add]⟩
end Go.Proofs.Qxb6628906a
