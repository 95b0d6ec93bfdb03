/-
  The walk of '(Currency).FormatAmount' (6).
-/
import Derived.Test.Qxb6628869aDoorUint
import Derived.Test.Qxb6628869aDoorPlain
import Derived.Lib.ItoaLen
namespace Go.Proofs.Qxb6628869aDoor
open Go.RowKit

theorem bcell {W w1 : World} (hb : Below W.heap.size W w1) : ∀ b o, b < W.heap.size → w1.cell? ⟨b, o, none⟩ = W.cell? ⟨b, o, none⟩ := fun b o h => hb.cell (p := ⟨b, o, none⟩) h

set_option maxHeartbeats 1000000 in
theorem fmt_neg (code : ByteArray) (mu u : Nat) (w : World) (hmu : mu ≤ 65537) (hu1 : 1 ≤ u) (hu : u ≤ 9223372036854775808) (htab : Lib.TabIs Tryd.prog w Tryd.pow10Name .u64 Lib.pow10Tab) :
    Calls Tryd.prog 6 #[.agg #[.string code, .int .i64 mu], .int .i64 (-(u : Int))] w fun e w' => e = .returned (.string (str (textL true mu u))) ∧ Below w.heap.size w w' := by
  have hwr : IntKind.u64.wrap (-IntKind.u64.wrap (-(u : Int))) = (u : Int) := by rw [IntKind.wrap_u64, IntKind.wrap_u64]; omega
  have HTAB : Hid (Lib.TabIs Tryd.prog w Tryd.pow10Name .u64 Lib.pow10Tab) := htab
  obtain ⟨D, hD⟩ : ∃ D, D = str (Lib.decDigits u) := ⟨_, rfl⟩
  have HD : Hid (D = str (Lib.decDigits u)) := hD
  have HDL : Hid (D.data.toList = Lib.decDigits u) := by show D.data.toList = _; rw [hD, str_list]
  have HDS : Hid (D.size = (Lib.decDigits u).length) := by show D.size = _; rw [hD, str_size]
  have hn1 : 1 ≤ D.size := by rw [hD, str_size]; exact decDigits_pos u
  have hn2 : D.size ≤ 20 := by rw [hD, str_size, Lib.decDigits_length]; exact Lib.nDigits_le20 u (by omega)
  clear htab hD
  go_enter Tryd.func6, Tryd.ntmps6
  go_wp2_with fail
  refine (formatUint u (by omega) _ (Lib.tabIs_alloc HTAB.out _)).mono ?_
  rintro e w1 ⟨rfl, hb⟩
  rw [show (⟨(Lib.decDigits u).toArray⟩ : ByteArray) = D from HD.out.symm]
  have HB : Hid (Below w.heap.size w w1) := ((Below.refl _ _).alloc (Nat.le_refl _) _).trans (hb.mono (by simp))
  have c1 : w1.cell? ⟨w.heap.size, 1, none⟩ = some (.int .i64 mu) := by
    rw [hb.cell (by show w.heap.size < _; simp), World.cell?_alloc_at _ _ _ _ rfl]; rfl
  have hls : w.heap.size < w1.heap.size := by have := hb.size; simp at this; omega
  clear hb
  by_cases hpad : (D.size : Int) ≤ (mu : Int)
  · obtain ⟨c, hc⟩ : ∃ c : Nat, (mu : Int) - (D.size : Int) + 1 = (c : Int) := ⟨mu - D.size + 1, by omega⟩
    have hcb : c ≤ 65538 := by omega
    have HCC : Hid (c = mu - D.size + 1) := by show c = _; omega
    have hmu0 : (0 : Int) < (mu : Int) := by omega
    go_wp2_with fail
    refine (Tryd.strings_Repeat ⟨#[48]⟩ c w1 (by omega) (by show 1 * c ≤ _; omega)).mono ?_
    rintro e w2 ⟨rfl, hb⟩
    obtain ⟨Z, hZ⟩ : ∃ Z : ByteArray, Z = ⟨(Lib.repeatL [48] c).toArray⟩ := ⟨_, rfl⟩
    have hE : (Z ++ D).data.toList = padL mu u := by
      rw [padL, if_pos (by rw [← HDS.out]; omega), ByteArray.data_append, Array.toList_append, HDL.out, hZ, repeat_zero, HCC.out, HDS.out]
    have hZs : Z.size = c := by rw [hZ]; show (Lib.repeatL [48] c).toArray.size = c; rw [repeat_zero]; simp
    have hEs : (Z ++ D).size = mu + 1 := by rw [ByteArray.size_append, hZs, HCC.out]; omega
    rw [show (⟨(Lib.repeatL [48] c).toArray⟩ : ByteArray) = Z from hZ.symm]
    have HE : Hid ((Z ++ D).data.toList = padL mu u) := hE
    have hZ1 : Z.size ≤ 65538 := by omega
    have hsum : mu < Z.size + D.size := by omega
    have HEs : Hid ((Z ++ D).size = mu + 1) := hEs
    have HB2 : Hid (Below w.heap.size w w2) := HB.out.trans (hb.mono (by omega))
    have c2 : w2.cell? ⟨w.heap.size, 1, none⟩ = some (.int .i64 mu) := by rw [hb.cell (by exact hls)]; exact c1
    clear hb hZ hE hZs hEs c1 hc hcb
    go_wp2
    go_ret
    have e := body_dot (Z ++ D) HE.out (by omega : 0 < mu)
    rw [ByteArray.size_append] at e
    exact ⟨by rw [e, minus]; rfl, HB2.out⟩
  · have hnp : Hid (¬ (Lib.decDigits u).length ≤ mu) := by show ¬ _ ≤ _; rw [← HDS.out]; omega
    have HE : Hid (D.data.toList = padL mu u) := by show _ = _; rw [padL, if_neg hnp.out]; exact HDL.out
    by_cases hz : (0 : Int) < (mu : Int)
    · go_wp2
      go_ret
      exact ⟨by rw [body_dot D HE.out (by omega), minus]; rfl, HB.out⟩
    · go_wp2
      go_ret
      exact ⟨by rw [body_bare D HE.out (by omega), minus]; rfl, HB.out⟩

set_option maxHeartbeats 1000000 in
theorem fmt_pos (code : ByteArray) (mu u : Nat) (w : World) (hmu : mu ≤ 65537) (hu : u ≤ 9223372036854775807) (htab : Lib.TabIs Tryd.prog w Tryd.pow10Name .u64 Lib.pow10Tab) :
    Calls Tryd.prog 6 #[.agg #[.string code, .int .i64 mu], .int .i64 (u : Int)] w fun e w' => e = .returned (.string (str (textL false mu u))) ∧ Below w.heap.size w w' := by
  have HTAB : Hid (Lib.TabIs Tryd.prog w Tryd.pow10Name .u64 Lib.pow10Tab) := htab
  obtain ⟨D, hD⟩ : ∃ D, D = str (Lib.decDigits u) := ⟨_, rfl⟩
  have HD : Hid (D = str (Lib.decDigits u)) := hD
  have HDL : Hid (D.data.toList = Lib.decDigits u) := by show D.data.toList = _; rw [hD, str_list]
  have HDS : Hid (D.size = (Lib.decDigits u).length) := by show D.size = _; rw [hD, str_size]
  have hn1 : 1 ≤ D.size := by rw [hD, str_size]; exact decDigits_pos u
  have hn2 : D.size ≤ 20 := by rw [hD, str_size, Lib.decDigits_length]; exact Lib.nDigits_le20 u (by omega)
  clear htab hD
  go_enter Tryd.func6, Tryd.ntmps6
  go_wp2_with fail
  refine (formatUint u (by omega) _ (Lib.tabIs_alloc HTAB.out _)).mono ?_
  rintro e w1 ⟨rfl, hb⟩
  rw [show (⟨(Lib.decDigits u).toArray⟩ : ByteArray) = D from HD.out.symm]
  have HB : Hid (Below w.heap.size w w1) := ((Below.refl _ _).alloc (Nat.le_refl _) _).trans (hb.mono (by simp))
  have c1 : w1.cell? ⟨w.heap.size, 1, none⟩ = some (.int .i64 mu) := by
    rw [hb.cell (by show w.heap.size < _; simp), World.cell?_alloc_at _ _ _ _ rfl]; rfl
  have hls : w.heap.size < w1.heap.size := by have := hb.size; simp at this; omega
  clear hb
  by_cases hpad : (D.size : Int) ≤ (mu : Int)
  · obtain ⟨c, hc⟩ : ∃ c : Nat, (mu : Int) - (D.size : Int) + 1 = (c : Int) := ⟨mu - D.size + 1, by omega⟩
    have hcb : c ≤ 65538 := by omega
    have HCC : Hid (c = mu - D.size + 1) := by show c = _; omega
    have hmu0 : (0 : Int) < (mu : Int) := by omega
    go_wp2_with fail
    refine (Tryd.strings_Repeat ⟨#[48]⟩ c w1 (by omega) (by show 1 * c ≤ _; omega)).mono ?_
    rintro e w2 ⟨rfl, hb⟩
    obtain ⟨Z, hZ⟩ : ∃ Z : ByteArray, Z = ⟨(Lib.repeatL [48] c).toArray⟩ := ⟨_, rfl⟩
    have hE : (Z ++ D).data.toList = padL mu u := by
      rw [padL, if_pos (by rw [← HDS.out]; omega), ByteArray.data_append, Array.toList_append, HDL.out, hZ, repeat_zero, HCC.out, HDS.out]
    have hZs : Z.size = c := by rw [hZ]; show (Lib.repeatL [48] c).toArray.size = c; rw [repeat_zero]; simp
    have hEs : (Z ++ D).size = mu + 1 := by rw [ByteArray.size_append, hZs, HCC.out]; omega
    rw [show (⟨(Lib.repeatL [48] c).toArray⟩ : ByteArray) = Z from hZ.symm]
    have HE : Hid ((Z ++ D).data.toList = padL mu u) := hE
    have hZ1 : Z.size ≤ 65538 := by omega
    have hsum : mu < Z.size + D.size := by omega
    have HEs : Hid ((Z ++ D).size = mu + 1) := hEs
    have HB2 : Hid (Below w.heap.size w w2) := HB.out.trans (hb.mono (by omega))
    have c2 : w2.cell? ⟨w.heap.size, 1, none⟩ = some (.int .i64 mu) := by rw [hb.cell (by exact hls)]; exact c1
    clear hb hZ hE hZs hEs c1 hc hcb
    go_wp2
    go_ret
    have e := body_dot (Z ++ D) HE.out (by omega : 0 < mu)
    rw [ByteArray.size_append] at e
    exact ⟨by rw [e]; rfl, HB2.out⟩
  · have hnp : Hid (¬ (Lib.decDigits u).length ≤ mu) := by show ¬ _ ≤ _; rw [← HDS.out]; omega
    have HE : Hid (D.data.toList = padL mu u) := by show _ = _; rw [padL, if_neg hnp.out]; exact HDL.out
    by_cases hz : (0 : Int) < (mu : Int)
    · go_wp2
      go_ret
      exact ⟨by rw [body_dot D HE.out (by omega)]; rfl, HB.out⟩
    · go_wp2
      go_ret
      exact ⟨by rw [body_bare D HE.out (by omega)]; rfl, HB.out⟩

end Go.Proofs.Qxb6628869aDoor
