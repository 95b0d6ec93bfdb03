/-
  The row of law3, proved.
-/
import Derived.Test.Qxb6628906aLaw3
import Derived.ProofKit
import Derived.OpenShut
import Derived.ShutString
import Derived.ChangeOld
import Derived.Below
namespace Go.Proofs.Qxb6628906a
open Go.ChangeShapes Go.WideShapes Go.ChangeAt Go.RowKit
open Go.ChangeMaps (open_string shut_string)

theorem own : ownKnob Try.prog.godebug = none := by kernel_rfl
theorem laidOut : laidOutB Try.prog = true := by kernel_rfl
theorem cells9 : Try.prog.cellsOf 9 = 1 := by kernel_rfl
theorem cells5 : Try.prog.cellsOf 5 = 1 := by kernel_rfl

/-- A slice of strings that came in, opened. -/
theorem open_row {K : Type} {enc : TypeId × Value → K} {W : World} {a : Option Addr} {n cap : Nat} {d : DataW K} {ps : List MemPlace}
    (h : DataW.Trod enc Try.prog W 0 (fun _ => true) true 22 (.slice a n cap) d ps) :
    n ≤ maxLen ∧ ∃ ss, StrRow W a n ss := by
  have lt : ∀ x ∈ ps, x.block < W.heap.size := by obtain ⟨m, hm⟩ := h; exact DataW.trod_lt m _ _ _ hm
  obtain ⟨fuel, hf⟩ := h
  rcases open_strings Try.underlying22 Try.underlying9 cells9 hf with ⟨hcs, _⟩ | ⟨x, l, c, ss, hcs, _, hl, hm, hz, hx, hcell, _⟩
  · simp [Value.cells] at hcs
    obtain ⟨rfl, rfl, rfl⟩ := hcs
    exact ⟨by unfold maxLen; omega, [], rfl, .inl rfl⟩
  · simp [Value.cells] at hcs
    obtain ⟨rfl, rfl, rfl⟩ := hcs
    simp only [Prod.mk.injEq] at hx
    obtain ⟨_, rfl⟩ := hx
    simp only [if_true] at hz
    refine ⟨Nat.le_trans hl hm, ss.take n, (by simp; omega), ?_⟩
    by_cases h0 : n = 0
    · exact .inl h0
    · obtain ⟨b, off, spot⟩ := x
      have hspot : spot = none := by simpa [Addr.add] using World.cell?_spot (hcell 0 (by omega))
      subst hspot
      refine .inr ⟨b, off, rfl, lt (.cell b off) (MemPlace.mem_row.2 ⟨0, by omega, by simp⟩), fun j hj => ?_⟩
      have := hcell j (by omega)
      rw [add_plain] at this
      rw [this]
      simp [List.getD, hj]

/-- A slice of bytes that came in, opened. -/
theorem open_bytes {K : Type} {enc : TypeId × Value → K} {W : World} {a : Option Addr} {n cap : Nat} {d : DataW K} {ps : List MemPlace}
    (h : DataW.Trod enc Try.prog W 0 (fun _ => true) true 23 (.slice a n cap) d ps) :
    n ≤ maxLen ∧ n ≤ cap ∧ ∃ x : ByteArray, x.size = n ∧ ByteRow W a x.size (ints x) := by
  have lt : ∀ x ∈ ps, x.block < W.heap.size := by obtain ⟨m, hm⟩ := h; exact DataW.trod_lt m _ _ _ hm
  obtain ⟨fuel, hf⟩ := h
  rcases open_ints Try.underlying23 Try.underlying5 cells5 hf with ⟨hcs, _⟩ | ⟨x, l, c, zs, hcs, _, hl, hm, hz, hx, hcell, hwz⟩
  · simp [Value.cells] at hcs
    obtain ⟨rfl, rfl, rfl⟩ := hcs
    exact ⟨by unfold maxLen; omega, Nat.le_refl _, ByteArray.empty, rfl, rfl, .inl rfl⟩
  · simp [Value.cells] at hcs
    obtain ⟨rfl, rfl, rfl⟩ := hcs
    simp only [Prod.mk.injEq] at hx
    obtain ⟨_, rfl⟩ := hx
    simp only [if_true] at hz
    have hw : ∀ z ∈ zs.take n, (Lit.int .u8 z).wf = true := fun z h => hwz z (List.mem_of_mem_take h)
    have hlen : (zs.take n).length = n := by simp; omega
    refine ⟨Nat.le_trans hl hm, hl, strOfNums (zs.take n), by rw [strOfNums_size, hlen], ?_⟩
    rw [strOfNums_size, ints_strOfNums _ hw, hlen]
    refine ⟨hlen, ?_⟩
    by_cases h0 : n = 0
    · exact .inl h0
    · obtain ⟨b, off, spot⟩ := x
      have hspot : spot = none := by simpa [Addr.add] using World.cell?_spot (hcell 0 (by omega))
      subst hspot
      refine .inr ⟨b, off, rfl, lt (.cell b off) (MemPlace.mem_row.2 ⟨0, by omega, by simp⟩), fun j hj => ?_⟩
      have := hcell j (by omega)
      rw [add_plain] at this
      rw [this]
      simp [List.getD, hj]

set_option maxRecDepth 100000 in
theorem law3_lifted (os : Os) (started : os.Started) (K : Type) (enc : TypeId × Value → K) :
    ReturnsInHanded {} Try.checked os 3 .any (Rows.fnIndexFindsFirstHolderElseRefusesSpec.pre6 enc Try.prog Try.f3 Rows.fnIndexFindsFirstHolderElseRefusesRow.domain false) (Rows.fnIndexFindsFirstHolderElseRefusesSpec.post enc Try.prog Try.f3 false true false false) := by
  refine returnsInHanded_of_change (C := Try.checked) own started (by kernel_rfl) Try.func3
    (ChangeSpec.witness6 (enc := enc) (C := Try.checked) false ⟨#[], #[.slice none 0 0, .slice none 0 0], []⟩ 8 (by kernel_rfl) (by kernel_rfl) (by kernel_rfl) (by kernel_rfl)) ?_
  intro W base args ds gs before hval0 hW hcnd _
  have hval : ∀ (j : Nat) t v, Try.f3.params[j]? = some t → args[j]? = some v → Value.okWide Try.prog W .any base t v := hval0
  have hW' := hW
  obtain ⟨p, q, hA0, hV, rfl, hfz, hnd⟩ := hW
  have hA : DataW.TrodAll enc Try.prog W 0 (fun _ => true) true Try.f3.params.toList args.toList ds p := hA0
  rw [Try.params3] at hA hval
  obtain ⟨v0, vs0, d0, ds0, p0, q0, hargs, rfl, rfl, h0, r0⟩ := trodAll_cons hA
  obtain ⟨v1, vs1, d1, ds1, p1, q1, rfl, rfl, rfl, h1, r1⟩ := trodAll_cons r0
  obtain ⟨rfl, rfl, rfl⟩ := trodAll_nil r1
  obtain rfl : args = #[v0, v1] := by cases args; simp_all
  obtain ⟨rfl, rfl⟩ := trodVars_none hV
  obtain ⟨a, n, cap, rfl⟩ := okWide_slice Try.underlying22 (hval 0 22 v0 rfl rfl)
  have k0 := h0
  have lt0 : ∀ x ∈ p0, x.block < W.heap.size := by obtain ⟨m, hm⟩ := k0; exact DataW.trod_lt m _ _ _ hm
  obtain ⟨hn, ss, hrow⟩ := open_row h0
  obtain ⟨a2, n2, cap2, rfl⟩ := okWide_slice Try.underlying23 (hval 1 23 v1 rfl rfl)
  have k1 := h1
  have lt1 : ∀ x ∈ p1, x.block < W.heap.size := by obtain ⟨m, hm⟩ := k1; exact DataW.trod_lt m _ _ _ hm
  obtain ⟨hn2, hc2, x, hx, hrow2⟩ := open_bytes h1
  subst hx
  clear hA0 hval0
  refine (law3_walk a n cap ss a2 cap2 x W hn hn2 hrow hrow2 hc2).mono fun e W' ⟨he, bel⟩ => ?_
  subst he
  exact ⟨_, rfl, _, _, _, [], _, [], hW', trodAll_mk1 (shut_bool Try.underlying4 _),
    (trodAll_cons_mk (Below.trod laidOut (by kernel_rfl) (of_decide_eq_true (by kernel_rfl)) k0 bel lt0) (trodAll_cons_mk (Below.trod laidOut (by kernel_rfl) (of_decide_eq_true (by kernel_rfl)) k1 bel lt1) trodAll_mk0)), rfl, bel.frame _, fun h => by cases h⟩

theorem law3_proved : Rows.FnIndexFindsFirstHolderElseRefusesSaid :=
  OpenClaim.holds_of_wide 3 Try.f3 rfl rfl rfl rfl rfl rfl rfl ⟨rfl, rfl, rfl, rfl, rfl⟩ rfl rfl rfl rfl rfl (by kernel_rfl) Try.func3 (by kernel_rfl)
    (of_decide_eq_true (by kernel_rfl)) (by unfold Func.isWrapper; first | (rw [if_pos (by decide +kernel)]; kernel_rfl) | (rw [if_neg (by decide +kernel)]; exact ⟨rfl, rfl⟩))
    (fun os started K enc _ => law3_lifted os started K enc)
end Go.Proofs.Qxb6628906a
