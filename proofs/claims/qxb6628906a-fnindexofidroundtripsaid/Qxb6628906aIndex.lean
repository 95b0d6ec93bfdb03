/-
  The walk of 'Index' (8).
-/
import Derived.Test.Qxb6628906aSlot
set_option linter.unusedVariables false
namespace Go.Proofs.Qxb6628906a
open Go.RowKit

theorem pow_lt64 (ar : Nat) (h : ar < 64) : 2 ^ ar < 18446744073709551616 := Nat.lt_of_lt_of_eq (Nat.pow_lt_pow_right (by omega) h) rfl
theorem wrap_pow (ar : Nat) (h : ar < 64) : IntKind.u64.wrap ((2 : Int) ^ ar) = ((2 ^ ar : Nat) : Int) := by
  have h1 := pow_lt64 ar h
  have h2 : ((2 : Int) ^ ar) = ((2 ^ ar : Nat) : Int) := by rw [Int.natCast_pow]; rfl
  rw [h2, IntKind.wrap_u64]
  obtain ⟨P, hP⟩ : ∃ P, P = 2 ^ ar := ⟨_, rfl⟩
  rw [← hP] at h1 ⊢
  omega
theorem and_run (f ar : Nat) (hf : f < 18446744073709551616) (h : ar < 64) : bits .and .u64 (f : Int) (IntKind.u64.wrap ((2 : Int) ^ ar)) = ((f &&& 2 ^ ar : Nat) : Int) := by
  rw [wrap_pow ar h]; exact bits_and_u64_nat f _ hf (pow_lt64 ar h)
theorem or_run (f ar : Nat) (hf : f < 18446744073709551616) (h : ar < 64) : bits .or .u64 (f : Int) (IntKind.u64.wrap ((2 : Int) ^ ar)) = ((f ||| 2 ^ ar : Nat) : Int) := by
  rw [wrap_pow ar h]; exact bits_or_u64_nat f _ hf (pow_lt64 ar h)
theorem not_bit {F : List Nat} {a : Nat} (h : at' F (a / 64) &&& 2 ^ (a % 64) = 0) : ¬ Bit F a := by
  unfold Bit; rw [(and_bit _ _).1 h]; exact Bool.false_ne_true

set_option maxHeartbeats 1000000 in
theorem index_any (b fb eb tb : Nat) (F : List Nat) (T : ByteArray) (E tab : List Nat) (ss : List ByteArray) (a : Option Addr) (cap : Nat) (x : ByteArray) (ex p J : Nat) (w : World)
    (hts : tab.length = 2 ^ ex) (hlen : tab.length ≤ 1048576) (hn : E.length ≤ 65536) (hxs : x.size ≤ 1048576) (hcap : x.size ≤ cap) (hf1 : 1 ≤ F.length) (hf2 : F.length ≤ 1048576) (hF : ∀ j, at' F j < 18446744073709551616)
    (hs : SetAt w b fb eb tb F T E tab) (hT : Spells ss T E) (hr : ByteRow w a x.size (ints x)) (hle : ∀ p, at' tab p ≤ E.length) (hp : p < tab.length) (hsl : SlotAt ss tab tab.length (H x / 65536) x p J) :
    Calls Try.prog 8 #[.pointer (some ⟨b, 0, none⟩), .slice a x.size cap] w fun e w' => (∃ (r : Nat) (held : Bool), e = .returned (.tuple #[.int .i64 (r : Int), .bool held]) ∧ (held = true → at' tab p = r + 1) ∧ (held = false → r = 0 ∧ (¬ Bit F (bitA F.length (H x)) ∨ ¬ Bit F (bitB F.length (H x)) ∨ at' tab p = 0))) ∧ Below w.heap.size w w' := by
  have HS : Hid (SetAt w b fb eb tb F T E tab) := hs
  have HR : Hid (ByteRow w a x.size (ints x)) := hr
  have HF : Hid (∀ j, at' F j < 18446744073709551616) := hF
  obtain ⟨h, hh⟩ : ∃ h, h = H x := ⟨_, rfl⟩
  have hhl : h < 18446744073709551616 := by rw [hh]; exact H_lt x
  have HSLOT : Hid (∀ w2 cap2, SetAt w2 b fb eb tb F T E tab → ByteRow w2 a x.size (ints x) → Calls Try.prog 17 #[.pointer (some ⟨b, 0, none⟩), .slice a x.size cap2, .int .u64 (h : Int)] w2 fun e w' => e = .returned (.int .i64 (p : Int)) ∧ ∃ m, w' = w2.drewN m) := fun w2 cap2 h1 h2 =>
    slot_any b fb eb tb F T E tab ss a cap2 x h ex p J w2 hhl hts hlen hn h1 hT h2 hle (by rw [hh]; exact hsl)
  have HHASH : Hid (Calls Try.prog 15 #[.slice a x.size cap] w fun e w' => e = .returned (.int .u64 (h : Int)) ∧ Below w.heap.size w w') := by
    show Calls _ _ _ _ _; rw [hh]; exact hash_key a cap x w hxs hcap hr
  have hfa := bitA_lt (h := h) hf1
  have hfb := bitB_lt (h := h) hf1
  rw [← hh]
  obtain ⟨fw, hfw⟩ : ∃ fw, fw = F.length := ⟨_, rfl⟩
  have HFW : Hid (fw = F.length) := hfw
  obtain ⟨A, hA⟩ : ∃ A, A = bitA F.length h := ⟨_, rfl⟩
  obtain ⟨B, hB⟩ : ∃ B, B = bitB F.length h := ⟨_, rfl⟩
  have HBITS : Hid (∀ w2, SetAt w2 b fb eb tb F T E tab → Calls Try.prog 16 #[.pointer (some ⟨b, 0, none⟩), .int .u64 (h : Int)] w2 fun e w' => e = .returned (.tuple #[.int .u64 (A : Int), .int .u64 (B : Int)]) ∧ w' = w2) := fun w2 h2 => by
    rw [hA, hB]; exact bits_any b fb eb tb F T E tab h w2 hhl hf1 hf2 h2
  rw [← hA, ← hB]
  rw [← hA, ← hfw] at hfa
  rw [← hB, ← hfw] at hfb
  have hvle := hle p
  obtain ⟨v, hv⟩ : ∃ v, v = at' tab p := ⟨_, rfl⟩
  rw [← hv] at hvle ⊢
  have HV : Hid (v = at' tab p) := hv
  have hfwb : fw ≤ 1048576 := by rw [hfw]; exact hf2
  obtain ⟨ai, hai⟩ : ∃ i, i = A / 64 := ⟨_, rfl⟩
  obtain ⟨ar, har⟩ : ∃ i, i = A % 64 := ⟨_, rfl⟩
  have qa : ((A : Int) / 64) = (ai : Int) := by omega
  have ra : ((A : Int) % 64) = (ar : Int) := by omega
  have hail : ai < fw := by omega
  have harl : ar < 64 := by omega
  have wai : IntKind.u64.wrap (ai : Int) = (ai : Int) := by rw [IntKind.wrap_u64]; omega
  have war : IntKind.u64.wrap (ar : Int) = (ar : Int) := by rw [IntKind.wrap_u64]; omega
  obtain ⟨af, haf⟩ : ∃ f, f = at' F ai := ⟨_, rfl⟩
  obtain ⟨ag, hag⟩ : ∃ g, g = af &&& 2 ^ ar := ⟨_, rfl⟩
  have na : bits .and .u64 (af : Int) (IntKind.u64.wrap ((2 : Int) ^ ar)) = (ag : Int) := by rw [hag]; exact and_run af ar (by rw [haf]; exact hF _) harl
  have Ba : Hid (ag = 0 → ¬ Bit F A) := fun h0 => not_bit (by rw [← hai, ← har, ← haf, ← hag]; exact h0)
  have HaF : Hid (af = at' F ai) := haf
  clear hai har haf hag
  obtain ⟨bi, hbi⟩ : ∃ i, i = B / 64 := ⟨_, rfl⟩
  obtain ⟨br, hbr⟩ : ∃ i, i = B % 64 := ⟨_, rfl⟩
  have qb : ((B : Int) / 64) = (bi : Int) := by omega
  have rb : ((B : Int) % 64) = (br : Int) := by omega
  have hbil : bi < fw := by omega
  have hbrl : br < 64 := by omega
  have wbi : IntKind.u64.wrap (bi : Int) = (bi : Int) := by rw [IntKind.wrap_u64]; omega
  have wbr : IntKind.u64.wrap (br : Int) = (br : Int) := by rw [IntKind.wrap_u64]; omega
  obtain ⟨bf, hbf⟩ : ∃ f, f = at' F bi := ⟨_, rfl⟩
  obtain ⟨bg, hbg⟩ : ∃ g, g = bf &&& 2 ^ br := ⟨_, rfl⟩
  have nb : bits .and .u64 (bf : Int) (IntKind.u64.wrap ((2 : Int) ^ br)) = (bg : Int) := by rw [hbg]; exact and_run bf br (by rw [hbf]; exact hF _) hbrl
  have Bb : Hid (bg = 0 → ¬ Bit F B) := fun h0 => not_bit (by rw [← hbi, ← hbr, ← hbf, ← hbg]; exact h0)
  have HbF : Hid (bf = at' F bi) := hbf
  clear hbi hbr hbf hbg
  clear hs hT hr hle hsl hh hA hB hF hfw hv
  go_enter Try.func8, Try.ntmps8
  go_wp2_with fail
  refine HHASH.out.mono ?_
  rintro e w1 ⟨rfl, hb⟩
  have HB : Hid (Below w.heap.size w w1) := hb
  have HS1 : Hid (SetAt w1 b fb eb tb F T E tab) := HS.out.below hb
  have HR1 : Hid (ByteRow w1 a x.size (ints x)) := by
    refine ⟨HR.out.1, ?_⟩
    rcases HR.out.2 with h0 | ⟨g, off, rfl, hlt, hc⟩
    · exact .inl h0
    · exact .inr ⟨g, off, rfl, Nat.lt_of_lt_of_le hlt hb.size, fun j hj => by rw [hb.cell (p := ⟨g, off + j, none⟩) hlt]; exact hc j hj⟩
  have c0 := HS1.out.c0
  have c3 := HS1.out.c3
  have ct := HS1.out.tc p hp
  rw [← HV.out] at ct
  rw [← HFW.out] at c0
  have ca := HS1.out.fc ai (by rw [← HFW.out]; exact hail)
  have cb := HS1.out.fc bi (by rw [← HFW.out]; exact hbil)
  rw [← HaF.out] at ca
  rw [← HbF.out] at cb
  obtain ⟨ts, hts2⟩ : ∃ ts, ts = tab.length := ⟨_, rfl⟩
  rw [← hts2] at c3 hp hlen
  clear hb hts hts2 hf1 hf2
  go_wp2_with fail
  refine (HBITS.out w1 HS1.out).mono ?_
  rintro e w2 ⟨rfl, hw⟩
  rw [hw]
  clear hw w2
  by_cases hg1 : ag = 0
  · have t1 : ((ag : Int) == 0) = true := by simp; exact hg1
    go_wp2
    go_ret2
    exact ⟨⟨0, false, rfl, (fun h => by cases h), fun _ => ⟨rfl, .inl (Ba.out hg1)⟩⟩, HB.out⟩
  · have t1 : ((ag : Int) == 0) = false := by simp; exact hg1
    by_cases hg2 : bg = 0
    · have t2 : ((bg : Int) == 0) = true := by simp; exact hg2
      go_wp2
      go_ret2
      exact ⟨⟨0, false, rfl, (fun h => by cases h), fun _ => ⟨rfl, .inr (.inl (Bb.out hg2))⟩⟩, HB.out⟩
    · have t2 : ((bg : Int) == 0) = false := by simp; exact hg2
      by_cases hv0 : v = 0
      · have t3 : ((v : Int) != 0) = false := by simp; exact hv0
        go_wp2
        go_quiet ((go_at_call 17; refine Calls.quiet_of (HSLOT.out _ _ (HS1.out.drewN _) (HR1.out.drewN _))))
        go_wp2
        go_ret2
        exact ⟨⟨0, false, rfl, (fun h => by cases h), fun _ => ⟨rfl, .inr (.inr hv0)⟩⟩, HB.out.trans (below_drewN (Below.refl _ _) _)⟩
      · obtain ⟨u, hu⟩ : ∃ u, v = u + 1 := ⟨v - 1, by omega⟩
        subst hu
        have t3 : (((u : Int) + 1) != 0) = true := by simp; omega
        have hwu : IntKind.u32.wrap (u : Int) = (u : Int) := by rw [IntKind.wrap_u32]; omega
        have hwi : IntKind.i64.wrap (u : Int) = (u : Int) := by rw [IntKind.wrap_i64]; omega
        go_wp2
        go_quiet ((go_at_call 17; refine Calls.quiet_of (HSLOT.out _ _ (HS1.out.drewN _) (HR1.out.drewN _))))
        go_wp2
        go_ret2
        exact ⟨⟨u, true, rfl, fun _ => rfl, (fun h => by cases h)⟩, HB.out.trans (below_drewN (Below.refl _ _) _)⟩
end Go.Proofs.Qxb6628906a
