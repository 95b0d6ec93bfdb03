/-
  The law law4: the row proved, the card closed.
-/
import Derived.Test.Qxb6628869aDoorLaw4
import Derived.Test.Qxb6628869aDoorTie
import Derived.Test.Qxb6628869aDoorCards
import Derived.ProofKit
import Derived.LaidMore
import Derived.OpenShut
import Derived.ShutString
import Derived.ChangeOld
import Derived.Below
import Derived.MakeChecks
import Derived.Stop.Joined
import Derived.Stop.LaidErr
import Derived.Lib.LaidTab
import Derived.SevenTiedAt
namespace Go.Proofs.Qxb6628869aDoor
open Go.ChangeShapes Go.WideShapes Go.ChangeAt Go.RowKit
open Go.ChangeMaps (open_string shut_string)

theorem own : ownKnob Tryd.prog.godebug = none := by kernel_rfl
theorem gP : Tryd.prog.globalNamed Tryd.pow10Name = some 0 := by kernel_rfl
theorem tP : (Tryd.prog.globals[0]?).map (·.type) = some 58 := by kernel_rfl
theorem cells26 : Tryd.prog.cellsOf 26 = 1 := by kernel_rfl
theorem cells58 : Tryd.prog.cellsOf 58 = 20 := by kernel_rfl

/-- The door's own heap meets the condition. -/
theorem door_met (os : Os) (args : Array Value) : laidMetH Tryd.prog Rows.fnFormatAmountTenfoldShiftSignAndLengthRow.laid ((World.doorLaid Tryd.prog 24 os).forCall (fun _ _ => 0) ⟨#[], args, []⟩).memory :=
  laidMetH_of_parts3 (fuel := 65) (laidMet_of_run' 65 (by kernel_rfl) (by kernel_rfl)) (by kernel_rfl) (by kernel_rfl)

/-- What the condition gives the walks: the table of the powers of ten. -/
theorem tab_of_laid {W : World} (h : laidMetH Tryd.prog Rows.fnFormatAmountTenfoldShiftSignAndLengthRow.laid W) : Lib.TabIs Tryd.prog W Tryd.pow10Name .u64 Lib.pow10Tab := by
  rw [MakeChecks.laidMetH_plain _ _ _ (by kernel_rfl)] at h
  have h2 : laidMet Tryd.prog [(Tryd.pow10Name, Lib.tabData .u64 Lib.pow10Tab)] W := laidMet.tail (laidMet.tail h)
  exact Lib.tabIs_of_head gP tP Tryd.underlying58 Tryd.underlying26 cells26 cells58 h2

theorem law4_walk (code : ByteArray) (m a : Int) (w : World) (ha : -9223372036854775808 ≤ a) (hb : a ≤ 9223372036854775807) (htab : Lib.TabIs Tryd.prog w Tryd.pow10Name .u64 Lib.pow10Tab) :
    Calls Tryd.prog 4 #[.string code, .int .i64 m, .int .i64 a] w fun e w' => e = .returned (.bool true) ∧ Below w.heap.size w w' := by
  by_cases hm : m < 0 ∨ 65536 < m
  · exact law4_out code m a w hm
  · obtain ⟨mu, rfl⟩ : ∃ mu : Nat, m = (mu : Int) := ⟨m.toNat, by omega⟩
    by_cases h0 : a < 0
    · obtain ⟨u, rfl⟩ : ∃ u : Nat, a = -(u : Int) := ⟨a.natAbs, by omega⟩
      exact law4_neg code mu u w (by omega) (by omega) (by omega) htab
    · obtain ⟨u, rfl⟩ : ∃ u : Nat, a = (u : Int) := ⟨a.toNat, by omega⟩
      exact law4_pos code mu u w (by omega) (by omega) htab

set_option maxRecDepth 100000 in
theorem lifted (os : Os) (started : os.Started) (H : Type) (enc : TypeId × Value → H) :
    ReturnsInHanded {} Tryd.checked os 4 .any (fun w args => (Rows.fnFormatAmountTenfoldShiftSignAndLengthSpec.pre enc Tryd.prog Tryd.f4 [] false w args ∧ laidMetH Tryd.prog Rows.fnFormatAmountTenfoldShiftSignAndLengthRow.laid w) ∧ sizedMet enc Tryd.prog Tryd.f4 (OpenSpec.ofChange Rows.fnFormatAmountTenfoldShiftSignAndLengthSpec) false w args)
      (Rows.fnFormatAmountTenfoldShiftSignAndLengthSpec.post enc Tryd.prog Tryd.f4 false true false false) := by
  refine returnsInHanded_of_change_and (C := Tryd.checked) (X := fun w _ => laidMetH Tryd.prog Rows.fnFormatAmountTenfoldShiftSignAndLengthRow.laid w) (fun _ _ _ hh h => h.of_heap hh) own started (by kernel_rfl) Tryd.func4
    (ChangeSpec.witness_shaped (enc := enc) (C := Tryd.checked) (os := os) (X := fun w _ => laidMetH Tryd.prog Rows.fnFormatAmountTenfoldShiftSignAndLengthRow.laid w) false (World.doorLaid Tryd.prog 24 os) #[.string ⟨#[]⟩, .int .i64 0, .int .i64 0] 8 rfl (World.shaped_of_RefB (by kernel_rfl) (by kernel_rfl)) (by kernel_rfl) (by kernel_rfl) (by kernel_rfl) (door_met os _)) ?_
  intro W base args ds gs before hval0 hW _ _ hL _
  have hval : ∀ (j : Nat) t v, Tryd.f4.params[j]? = some t → args[j]? = some v → Value.okWide Tryd.prog W .any base t v := hval0
  have hW' := hW
  obtain ⟨p, q, hA0, hV, rfl, hfz, hnd⟩ := hW
  have hA : DataW.TrodAll enc Tryd.prog W 0 (fun _ => true) true Tryd.f4.params.toList args.toList ds p := hA0
  rw [Tryd.params4] at hA hval
  obtain ⟨v0, vs0, d0, ds0, p0, q0, hargs, rfl, rfl, h0, r0⟩ := trodAll_cons hA
  obtain ⟨v1, vs1, d1, ds1, p1, q1, rfl, rfl, rfl, h1, r1⟩ := trodAll_cons r0
  obtain ⟨v2, vs2, d2, ds2, p2, q2, rfl, rfl, rfl, h2, r2⟩ := trodAll_cons r1
  obtain ⟨rfl, rfl, rfl⟩ := trodAll_nil r2
  obtain rfl : args = #[v0, v1, v2] := by cases args; simp_all
  obtain ⟨rfl, rfl⟩ := trodVars_none hV
  obtain ⟨s0, rfl, rfl, rfl, z0⟩ := open_string Tryd.underlying9 (hval 0 9 v0 rfl rfl) h0
  obtain ⟨i1, rfl, rfl, rfl, z1⟩ := open_int Tryd.underlying3 (hval 1 3 v1 rfl rfl) h1
  obtain ⟨i2, rfl, rfl, rfl, z2⟩ := open_int Tryd.underlying2 (hval 2 2 v2 rfl rfl) h2
  have htab := tab_of_laid hL
  clear hA0 hval0
  have b1 := bounds_i64 z2
  refine (law4_walk s0 i1 i2 W b1.1 b1.2 htab).mono fun e W' ⟨he, bel⟩ => ?_
  subst he
  exact ⟨_, rfl, _, _, _, [], _, [], hW', trodAll_mk1 (shut_bool Tryd.underlying4 _),
    (trodAll_cons_mk (shut_string Tryd.underlying9 z0) (trodAll_cons_mk (shut_int Tryd.underlying3 z1) (trodAll_cons_mk (shut_int Tryd.underlying2 z2) trodAll_mk0))), rfl, bel.frame _, fun h => by cases h⟩

theorem row_holds : Rows.FnFormatAmountTenfoldShiftSignAndLengthSaid :=
  OpenClaim.holds_of_wide 4 Tryd.f4 rfl rfl rfl rfl rfl rfl rfl ⟨rfl, rfl, rfl, rfl, rfl⟩ rfl rfl rfl rfl rfl (by kernel_rfl) Tryd.func4 (by kernel_rfl)
    (of_decide_eq_true (by kernel_rfl)) (by unfold Func.isWrapper; first | (rw [if_pos (by decide +kernel)]; kernel_rfl) | (rw [if_neg (by decide +kernel)]; exact ⟨rfl, rfl⟩))
    (fun os started H enc _ => lifted os started H enc)

theorem law4_card : Rows.FnFormatAmountTenfoldShiftSignAndLengthCardSaid :=
  Claim7.holds_tied_plain_at .later [] [.data, .data, .data] true (true, "a46cfd023b63665e1385a13236e7515b4d2e2333e74aa5968cb5dad51d07a4b8") false
    row_holds (fun _ h => by cases h) (by kernel_rfl) (fun _ h => by cases h) fnFormatAmountTenfoldShiftSignAndLength_row_tie rfl ⟨rfl, rfl⟩ (by kernel_rfl) rfl
    (fun f fn hf hfn => by
      obtain rfl : f = 4 := Option.some.inj ((show Tryd.prog.funcNamed Rows.fnFormatAmountTenfoldShiftSignAndLengthRow.func = some 4 by kernel_rfl).symm.trans hf) |>.symm
      obtain rfl : fn = Tryd.f4 := (Option.some.inj (Tryd.func4.symm.trans hfn)).symm
      exact ⟨by kernel_rfl, fun j t ht => by
        rw [Tryd.params4] at ht
        have hm : t ∈ [9, 3, 2] := by simpa using Array.mem_of_getElem? ht
        have hall : ([9, 3, 2].all fun u => !Tryd.prog.wantsStandIn u) = true := by kernel_rfl
        exact (show Tryd.prog.wantsStandIn t = false by simpa using List.all_eq_true.1 hall t hm)⟩)
    (by kernel_rfl)
end Go.Proofs.Qxb6628869aDoor
