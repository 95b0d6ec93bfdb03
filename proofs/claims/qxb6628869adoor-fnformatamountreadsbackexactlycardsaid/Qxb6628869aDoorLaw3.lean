/-
  The walk of the first law (3).
-/
import Derived.Test.Qxb6628869aDoorFmt
import Derived.Test.Qxb6628869aDoorTxt
import Derived.Deep.QuietTactic
import Derived.BigQuiet
set_option linter.unusedVariables false
namespace Go.Proofs.Qxb6628869aDoor
open Go.RowKit

theorem bytes5 (code : ByteArray) (m a : Int) (w : World) :
    Calls Tryd.prog 5 #[.string code, .int .i64 m, .int .i64 a] w fun e w' => (∃ r, e = .returned (.bool r) ∧ (r = true → code.size ≤ 1048576)) ∧ w' = w := by
  go_enter Tryd.func5, Tryd.ntmps5
  go_wp2
  all_goals (go_ret; first | exact ⟨⟨false, rfl, fun h => by cases h⟩, rfl⟩ | exact ⟨⟨true, rfl, fun h => by omega⟩, rfl⟩)

theorem ix (S : ByteArray) (i : Nat) (c : Nat) (h : i < S.size) (hc : (S[i]).toNat = c) (w : World) :
    (Instr.index 9 (.string S) (.int .i64 (i : Int))).run Tryd.prog w = .ok (.int .u8 (c : Int)) w := by
  rw [run_index_string w 9 S .i64 _ Tryd.underlying9, dif_pos ⟨by omega, by omega⟩]
  have e : ((i : Int)).toNat = i := by omega
  simp only [e, hc]

set_option maxRecDepth 100000 in
theorem law3_out (code : ByteArray) (m a : Int) (w : World) (hm : m < 0 ∨ 65536 < m) :
    Calls Tryd.prog 3 #[.string code, .int .i64 m, .int .i64 a] w fun e w' => e = .returned (.bool true) ∧ Below w.heap.size w w' := by
  go_enter Tryd.func3, Tryd.ntmps3
  go_wp2_with fail
  refine (bytes5 code m a w).mono ?_
  rintro e w' ⟨⟨r, rfl, hr⟩, hw⟩
  rw [hw]
  clear hw w'
  cases r with
  | false =>
    go_wp2
    go_ret
    exact ⟨rfl, Below.refl _ _⟩
  | true =>
    have hc := hr rfl
    clear hr
    have d0 : decide ((1048576 : Int) < (code.size : Int)) = false := by simp; omega
    rcases hm with hm | hm
    · go_wp2
      go_ret
      exact ⟨rfl, Below.refl _ _⟩
    · go_wp2
      go_ret
      exact ⟨rfl, Below.refl _ _⟩

set_option maxHeartbeats 1000000 in
set_option maxRecDepth 100000 in
theorem law3_neg (code : ByteArray) (mu u : Nat) (w : World) (hmu : mu ≤ 65536) (hu1 : 1 ≤ u) (hu : u ≤ 9223372036854775808) (htab : Lib.TabIs Tryd.prog w Tryd.pow10Name .u64 Lib.pow10Tab) :
    Calls Tryd.prog 3 #[.string code, .int .i64 (mu : Int), .int .i64 (-(u : Int))] w fun e w' => e = .returned (.bool true) ∧ Below w.heap.size w w' := by
  have HTAB : Hid (Lib.TabIs Tryd.prog w Tryd.pow10Name .u64 Lib.pow10Tab) := htab
  clear htab
  go_enter Tryd.func3, Tryd.ntmps3
  go_wp2_with fail
  refine (bytes5 code _ _ w).mono ?_
  rintro e w' ⟨⟨r, rfl, hr⟩, hw⟩
  rw [hw]
  clear hw w'
  cases r with
  | false =>
    go_wp2
    go_ret
    exact ⟨rfl, Below.refl _ _⟩
  | true =>
  have hc := hr rfl
  clear hr
  have d0 : decide ((1048576 : Int) < (code.size : Int)) = false := by simp; omega
  have d0n : decide (1048576 < code.size) = false := by simp; omega
  have d1 : decide ((mu : Int) < 0) = false := by simp
  have d2 : decide ((65536 : Int) < (mu : Int)) = false := by simp; omega
  have d2n : decide (65536 < mu) = false := by simp; omega
  go_wp2_with fail
  refine (fmt_neg code mu u _ (by omega) hu1 hu (Lib.tabIs_alloc HTAB.out _)).mono ?_
  rintro e w1 ⟨rfl, hb⟩
  have HB : Hid (Below w.heap.size w w1) := ((Below.refl _ _).alloc (Nat.le_refl _) _).trans (hb.mono (by simp))
  obtain ⟨S, hS⟩ : ∃ S, S = str (textL true mu u) := ⟨_, rfl⟩
  obtain ⟨n, hn⟩ : ∃ n, n = N mu u := ⟨_, rfl⟩
  obtain ⟨d, hd⟩ : ∃ d, d = D mu u := ⟨_, rfl⟩
  obtain ⟨v, hv⟩ : ∃ v, v = V mu u := ⟨_, rfl⟩
  have T : Txt S 1 n mu d := by rw [hS, hn, hd]; exact txt true mu u
  have HV0 : Hid (v 0 = 0) := by show v 0 = 0; rw [hv]; exact V_zero mu u
  have HVA : Hid (v (n + mu) = u) := by show v (n + mu) = u; rw [hv, hn]; exact V_all mu u
  have HVL : Hid (∀ j, v j ≤ u) := by show ∀ j, v j ≤ u; rw [hv]; exact V_le mu u
  have HVS : Hid (∀ j, j < n + mu → v (j + 1) = v j * 10 + d j) := by show ∀ j, j < n + mu → v (j + 1) = v j * 10 + d j; rw [hv, hn, hd]; exact V_succ mu u
  have HT : Hid (Txt S 1 n mu d) := T
  have hn1 : 1 ≤ n := T.n1
  have hnb : n ≤ 20 := by rw [hn]; exact N_le mu u (by omega)
  have hsz : S.size = 1 + n + (if 0 < mu then 1 + mu else 0) := T.size
  have hszb : S.size ≤ 70000 := by rw [hsz]; split <;> omega
  have hszc : 1 + n ≤ S.size := by rw [hsz]; omega
  have HSZ : Hid (S.size = 1 + n + (if 0 < mu then 1 + mu else 0)) := hsz
  have HSS : Hid (S = str (textL true mu u)) := hS
  have hx0 : ∀ w, (Instr.index 9 (.string S) (.int .i64 (0 : Int))).run Tryd.prog w = .ok (.int .u8 45) w := fun w => ix S 0 45 (by omega) (by
    have h0 : 0 < (str (textL true mu u)).size := by rw [← hS]; omega
    have e : (str (textL true mu u))[0] = 45 := by rw [str_at]; rfl
    subst hS; rw [e]; rfl) w
  clear hS hn hd hv T hb hsz
  rw [show str (textL true mu u) = S from HSS.out.symm]
  have g0 : decide ((0 : Int) < (S.size : Int)) = true := by simp; omega
  have g0n : decide (0 < S.size) = true := by simp; omega
  go_wp2
  clear hx0 g0 g0n
  go_loop [9] (fun x => ∃ j : Nat, j ≤ n ∧ x = .int .i64 ((1 + j : Nat) : Int)) (fun x => 1 + n - (intOf x).toNat)
  case atStart => exact ⟨0, by omega, by simp⟩
  case round =>
    obtain ⟨j, hj, rfl⟩ := hrel
    by_cases hlt : j < n
    · obtain ⟨c, hc⟩ : ∃ c, c = 48 + d j := ⟨_, rfl⟩
      have hdj := HT.out.le j (by omega)
      have hx : ∀ w, (Instr.index 9 (.string S) (.int .i64 ((1 + j : Nat) : Int))).run Tryd.prog w = .ok (.int .u8 (c : Int)) w := fun w => ix S (1 + j) c (by omega) (by rw [hc]; exact HT.out.int j hlt (by omega)) w
      have hc1 : 48 ≤ c := by omega
      have hc2 : c ≤ 57 := by omega
      obtain ⟨p, hp⟩ : ∃ p, p = 1 + j := ⟨_, rfl⟩
      rw [← hp] at hx ⊢
      have hpj : p < S.size := by omega
      have hpj2 : p < 1 + n := by omega
      have HP : Hid (p = 1 + j) := hp
      clear hc hdj hp
      go_wp2
      go_round
      case rel => exact ⟨j + 1, by omega, (by first | exact congrArg (Value.int .i64) (by have := HP.out; omega) | (have := HP.out; omega))⟩
      case measure => simp only [intOf]; have := HP.out; omega
    · have hjn : j = n := by omega
      rw [hjn]
      clear hjn hj hlt j
      obtain ⟨p, hp⟩ : ∃ p, p = 1 + n := ⟨_, rfl⟩
      rw [← hp]
      have HP : Hid (p = 1 + n) := hp
      have hpk : ((p : Int) == 1) = false := by simp; omega
      obtain ⟨c0, hc0⟩ : ∃ c0, c0 = 48 + d 0 := ⟨_, rfl⟩
      have hx0 : ∀ w, (Instr.index 9 (.string S) (.int .i64 (1 : Int))).run Tryd.prog w = .ok (.int .u8 (c0 : Int)) w := fun w => ix S 1 c0 (by omega) (by rw [hc0]; exact HT.out.int 0 (by omega) (by omega)) w
      have HC0 : Hid (1 < n → c0 ≠ 48) := fun h => by have := HT.out.lead h; omega
      have hpb : p ≤ 70000 := by omega
      clear hc0
      by_cases hn2 : 1 < n
      · have hcc : ((c0 : Int) == 48) = false := by have := HC0.out hn2; simp; omega
        have hpd : decide ((1 : Int) < (p : Int) - 1) = true := by simp; omega
        by_cases hm : 0 < mu
        · have hx : ∀ w, (Instr.index 9 (.string S) (.int .i64 (p : Int))).run Tryd.prog w = .ok (.int .u8 ((46 : Nat) : Int)) w := fun w => ix S p 46 (by have := HSZ.out; rw [if_pos hm] at this; omega) (by subst hp; exact HT.out.point hm (by have := HSZ.out; rw [if_pos hm] at this; omega)) w
          have hpj : p < S.size := by have := HSZ.out; rw [if_pos hm] at this; omega
          have HPS : Hid (p + 1 + mu = S.size) := by show p + 1 + mu = S.size; have := HSZ.out; rw [if_pos hm] at this; omega
          have hge : decide ((S.size : Int) ≤ (p : Int)) = false := by simp; omega
          clear hp
          go_wp2
          go_loop [9] (fun x => ∃ j : Nat, j ≤ mu ∧ x = .int .i64 ((p + 1 + j : Nat) : Int)) (fun x => p + 1 + mu - (intOf x).toNat)
          case atStart => exact ⟨0, by omega, by simp⟩
          case round =>
            obtain ⟨j, hj, rfl⟩ := hrel
            by_cases hlt : j < mu
            · obtain ⟨c, hc⟩ : ∃ c, c = 48 + d (n + j) := ⟨_, rfl⟩
              have hdj := HT.out.le (n + j) (by omega)
              obtain ⟨t, ht⟩ : ∃ t, t = p + 1 + j := ⟨_, rfl⟩
              have hx : ∀ w, (Instr.index 9 (.string S) (.int .i64 (t : Int))).run Tryd.prog w = .ok (.int .u8 (c : Int)) w := fun w => by
                rw [ht, HP.out, hc]; exact ix S (1 + n + 1 + j) _ (by have := HPS.out; have := HP.out; omega) (HT.out.frac hm j hlt (by have := HPS.out; have := HP.out; omega)) w
              have hc1 : 48 ≤ c := by omega
              have hc2 : c ≤ 57 := by omega
              rw [← ht]
              have htl : t < S.size := by have := HPS.out; omega
              have HTJ : Hid (t = p + 1 + j) := ht
              clear hc hdj ht
              go_wp2
              go_round
              case rel => exact ⟨j + 1, by omega, (by first | exact congrArg (Value.int .i64) (by have := HTJ.out; omega) | (have := HTJ.out; omega))⟩
              case measure => simp only [intOf]; have := HTJ.out; omega
            · have hjn : j = mu := by omega
              rw [hjn, HPS.out]
              clear hjn hj hlt j
              have hmm : (((S.size : Int) - ((p : Int) + 1)) != (mu : Int)) = false := by have := HPS.out; simp; omega
              go_wp2
              go_loop [15, 16] (fun m x => ∃ j : Nat, j ≤ n ∧ m = .int .u64 ((v j : Nat) : Int) ∧ x = .int .i64 ((1 + j : Nat) : Int)) (fun _ x => 1 + n - (intOf x).toNat)
              case atStart => exact ⟨0, by omega, by rw [HV0.out]; rfl, by simp⟩
              case round =>
                obtain ⟨j, hj, rfl, rfl⟩ := hrel
                by_cases hlt : j < n
                · obtain ⟨c, hc⟩ : ∃ c, c = 48 + d j := ⟨_, rfl⟩
                  have hdj := HT.out.le j (by omega)
                  obtain ⟨t, ht⟩ : ∃ t, t = 1 + j := ⟨_, rfl⟩
                  obtain ⟨y, hy⟩ : ∃ y, y = v j := ⟨_, rfl⟩
                  obtain ⟨g, hg⟩ : ∃ g, g = d j := ⟨_, rfl⟩
                  have hx : ∀ w, (Instr.index 9 (.string S) (.int .i64 (t : Int))).run Tryd.prog w = .ok (.int .u8 (((48 + g : Nat)) : Int)) w := fun w => by rw [ht, hg]; exact ix S (1 + j) (48 + d j) (by omega) (HT.out.int j hlt (by omega)) w
                  have hle : y * 10 + g ≤ u := by rw [hy, hg, ← HVS.out j (by omega)]; exact HVL.out _
                  have hg9 : g ≤ 9 := by omega
                  have HNX : Hid (v (j + 1) = y * 10 + g) := by show v (j + 1) = _; rw [hy, hg]; exact HVS.out j (by omega)
                  rw [← ht, ← hy]
                  have htp : t < p := by have := HP.out; omega
                  have HTJ : Hid (t = 1 + j) := ht
                  clear hc hdj ht hy hg
                  go_wp2
                  go_round
                  case rel => exact ⟨j + 1, by omega, (by first | exact congrArg (Value.int .u64) (by have := HNX.out; omega) | (have := HNX.out; omega)), (by first | exact congrArg (Value.int .i64) (by have := HTJ.out; omega) | (have := HTJ.out; omega))⟩
                  case measure => simp only [intOf]; have := HTJ.out; omega
                · have hjn : j = n := by omega
                  rw [hjn]
                  clear hjn hj hlt j
                  have htp : decide (((1 + n : Nat) : Int) < (p : Int)) = false := by have := HP.out; simp; omega
                  rw [← HP.out]
                  go_wp2
                  go_loop [15, 18] (fun m x => ∃ j : Nat, j ≤ mu ∧ m = .int .u64 ((v (n + j) : Nat) : Int) ∧ x = .int .i64 ((p + 1 + j : Nat) : Int)) (fun _ x => p + 1 + mu - (intOf x).toNat)
                  case atStart => exact ⟨0, by omega, rfl, by simp⟩
                  case round =>
                    obtain ⟨j, hj, rfl, rfl⟩ := hrel
                    by_cases hlt : j < mu
                    · have hdj := HT.out.le (n + j) (by omega)
                      obtain ⟨t, ht⟩ : ∃ t, t = p + 1 + j := ⟨_, rfl⟩
                      obtain ⟨y, hy⟩ : ∃ y, y = v (n + j) := ⟨_, rfl⟩
                      obtain ⟨g, hg⟩ : ∃ g, g = d (n + j) := ⟨_, rfl⟩
                      have hx : ∀ w, (Instr.index 9 (.string S) (.int .i64 (t : Int))).run Tryd.prog w = .ok (.int .u8 (((48 + g : Nat)) : Int)) w := fun w => by
                        rw [ht, HP.out, hg]; exact ix S (1 + n + 1 + j) _ (by have := HPS.out; have := HP.out; omega) (HT.out.frac hm j hlt (by have := HPS.out; have := HP.out; omega)) w
                      have hle : y * 10 + g ≤ u := by rw [hy, hg, ← HVS.out (n + j) (by omega)]; exact HVL.out _
                      have hg9 : g ≤ 9 := by omega
                      have HNX : Hid (v (n + (j + 1)) = y * 10 + g) := by show v (n + j + 1) = _; rw [hy, hg]; exact HVS.out (n + j) (by omega)
                      rw [← ht, ← hy]
                      have htp : t < S.size := by have := HPS.out; omega
                      have HTJ : Hid (t = p + 1 + j) := ht
                      clear hdj ht hy hg
                      go_wp2
                      go_round
                      case rel => exact ⟨j + 1, by omega, (by first | exact congrArg (Value.int .u64) (by have := HNX.out; omega) | (have := HNX.out; omega)), (by first | exact congrArg (Value.int .i64) (by have := HTJ.out; omega) | (have := HTJ.out; omega))⟩
                      case measure => simp only [intOf]; have := HTJ.out; omega
                    · have hjn : j = mu := by omega
                      rw [hjn, HVA.out, HPS.out]
                      clear hjn hj hlt j
                      go_wp2
                      go_ret
                      exact ⟨by rw [show ((u : Int) == -(-(u : Int) + 1) + 1) = true by simp; omega]; rfl, HB.out⟩
        · have HPS : Hid (p = S.size) := by show p = S.size; have := HSZ.out; rw [if_neg hm] at this; omega
          have hgS : S.size ≤ p := by have := HPS.out; omega
          have hlfn : decide (p < S.size) = false := by simp; omega
          have hm0 : decide ((0 : Int) < (mu : Int)) = false := by simp; omega
          have hm0n : decide (0 < mu) = false := by simp; omega
          have hlf : decide ((p : Int) < (S.size : Int)) = false := by have := HPS.out; simp; omega
          have hnf : ((p : Int) != (S.size : Int)) = false := by have := HPS.out; simp; omega
          clear hp
          go_wp2
          go_loop [15, 16] (fun m x => ∃ j : Nat, j ≤ n ∧ m = .int .u64 ((v j : Nat) : Int) ∧ x = .int .i64 ((1 + j : Nat) : Int)) (fun _ x => 1 + n - (intOf x).toNat)
          case atStart => exact ⟨0, by omega, by rw [HV0.out]; rfl, by simp⟩
          case round =>
            obtain ⟨j, hj, rfl, rfl⟩ := hrel
            by_cases hlt : j < n
            · obtain ⟨c, hc⟩ : ∃ c, c = 48 + d j := ⟨_, rfl⟩
              have hdj := HT.out.le j (by omega)
              obtain ⟨t, ht⟩ : ∃ t, t = 1 + j := ⟨_, rfl⟩
              obtain ⟨y, hy⟩ : ∃ y, y = v j := ⟨_, rfl⟩
              obtain ⟨g, hg⟩ : ∃ g, g = d j := ⟨_, rfl⟩
              have hx : ∀ w, (Instr.index 9 (.string S) (.int .i64 (t : Int))).run Tryd.prog w = .ok (.int .u8 (((48 + g : Nat)) : Int)) w := fun w => by rw [ht, hg]; exact ix S (1 + j) (48 + d j) (by omega) (HT.out.int j hlt (by omega)) w
              have hle : y * 10 + g ≤ u := by rw [hy, hg, ← HVS.out j (by omega)]; exact HVL.out _
              have hg9 : g ≤ 9 := by omega
              have HNX : Hid (v (j + 1) = y * 10 + g) := by show v (j + 1) = _; rw [hy, hg]; exact HVS.out j (by omega)
              rw [← ht, ← hy]
              have htp : t < p := by have := HP.out; omega
              have HTJ : Hid (t = 1 + j) := ht
              clear hc hdj ht hy hg
              go_wp2
              go_round
              case rel => exact ⟨j + 1, by omega, (by first | exact congrArg (Value.int .u64) (by have := HNX.out; omega) | (have := HNX.out; omega)), (by first | exact congrArg (Value.int .i64) (by have := HTJ.out; omega) | (have := HTJ.out; omega))⟩
              case measure => simp only [intOf]; have := HTJ.out; omega
            · have hjn : j = n := by omega
              rw [hjn]
              clear hjn hj hlt j
              have htp : decide (((1 + n : Nat) : Int) < (p : Int)) = false := by have := HP.out; simp; omega
              rw [← HP.out]
              go_wp2
              go_loop [15, 18] (fun m x => m = .int .u64 (u : Int) ∧ x = .int .i64 (p : Int)) (fun _ _ => 0)
              case atStart => exact ⟨by have h := HVA.out; rw [show mu = 0 by omega, Nat.add_zero] at h; rw [h], rfl⟩
              case round =>
                obtain ⟨rfl, rfl⟩ := hrel
                go_wp2
                go_ret
                exact ⟨by rw [show ((u : Int) == -(-(u : Int) + 1) + 1) = true by simp; omega]; rfl, HB.out⟩
      · have hpd : decide ((1 : Int) < (p : Int) - 1) = false := by simp; omega
        by_cases hm : 0 < mu
        · have hx : ∀ w, (Instr.index 9 (.string S) (.int .i64 (p : Int))).run Tryd.prog w = .ok (.int .u8 ((46 : Nat) : Int)) w := fun w => ix S p 46 (by have := HSZ.out; rw [if_pos hm] at this; omega) (by subst hp; exact HT.out.point hm (by have := HSZ.out; rw [if_pos hm] at this; omega)) w
          have hpj : p < S.size := by have := HSZ.out; rw [if_pos hm] at this; omega
          have HPS : Hid (p + 1 + mu = S.size) := by show p + 1 + mu = S.size; have := HSZ.out; rw [if_pos hm] at this; omega
          have hge : decide ((S.size : Int) ≤ (p : Int)) = false := by simp; omega
          clear hp
          go_wp2
          go_loop [9] (fun x => ∃ j : Nat, j ≤ mu ∧ x = .int .i64 ((p + 1 + j : Nat) : Int)) (fun x => p + 1 + mu - (intOf x).toNat)
          case atStart => exact ⟨0, by omega, by simp⟩
          case round =>
            obtain ⟨j, hj, rfl⟩ := hrel
            by_cases hlt : j < mu
            · obtain ⟨c, hc⟩ : ∃ c, c = 48 + d (n + j) := ⟨_, rfl⟩
              have hdj := HT.out.le (n + j) (by omega)
              obtain ⟨t, ht⟩ : ∃ t, t = p + 1 + j := ⟨_, rfl⟩
              have hx : ∀ w, (Instr.index 9 (.string S) (.int .i64 (t : Int))).run Tryd.prog w = .ok (.int .u8 (c : Int)) w := fun w => by
                rw [ht, HP.out, hc]; exact ix S (1 + n + 1 + j) _ (by have := HPS.out; have := HP.out; omega) (HT.out.frac hm j hlt (by have := HPS.out; have := HP.out; omega)) w
              have hc1 : 48 ≤ c := by omega
              have hc2 : c ≤ 57 := by omega
              rw [← ht]
              have htl : t < S.size := by have := HPS.out; omega
              have HTJ : Hid (t = p + 1 + j) := ht
              clear hc hdj ht
              go_wp2
              go_round
              case rel => exact ⟨j + 1, by omega, (by first | exact congrArg (Value.int .i64) (by have := HTJ.out; omega) | (have := HTJ.out; omega))⟩
              case measure => simp only [intOf]; have := HTJ.out; omega
            · have hjn : j = mu := by omega
              rw [hjn, HPS.out]
              clear hjn hj hlt j
              have hmm : (((S.size : Int) - ((p : Int) + 1)) != (mu : Int)) = false := by have := HPS.out; simp; omega
              go_wp2
              go_loop [15, 16] (fun m x => ∃ j : Nat, j ≤ n ∧ m = .int .u64 ((v j : Nat) : Int) ∧ x = .int .i64 ((1 + j : Nat) : Int)) (fun _ x => 1 + n - (intOf x).toNat)
              case atStart => exact ⟨0, by omega, by rw [HV0.out]; rfl, by simp⟩
              case round =>
                obtain ⟨j, hj, rfl, rfl⟩ := hrel
                by_cases hlt : j < n
                · obtain ⟨c, hc⟩ : ∃ c, c = 48 + d j := ⟨_, rfl⟩
                  have hdj := HT.out.le j (by omega)
                  obtain ⟨t, ht⟩ : ∃ t, t = 1 + j := ⟨_, rfl⟩
                  obtain ⟨y, hy⟩ : ∃ y, y = v j := ⟨_, rfl⟩
                  obtain ⟨g, hg⟩ : ∃ g, g = d j := ⟨_, rfl⟩
                  have hx : ∀ w, (Instr.index 9 (.string S) (.int .i64 (t : Int))).run Tryd.prog w = .ok (.int .u8 (((48 + g : Nat)) : Int)) w := fun w => by rw [ht, hg]; exact ix S (1 + j) (48 + d j) (by omega) (HT.out.int j hlt (by omega)) w
                  have hle : y * 10 + g ≤ u := by rw [hy, hg, ← HVS.out j (by omega)]; exact HVL.out _
                  have hg9 : g ≤ 9 := by omega
                  have HNX : Hid (v (j + 1) = y * 10 + g) := by show v (j + 1) = _; rw [hy, hg]; exact HVS.out j (by omega)
                  rw [← ht, ← hy]
                  have htp : t < p := by have := HP.out; omega
                  have HTJ : Hid (t = 1 + j) := ht
                  clear hc hdj ht hy hg
                  go_wp2
                  go_round
                  case rel => exact ⟨j + 1, by omega, (by first | exact congrArg (Value.int .u64) (by have := HNX.out; omega) | (have := HNX.out; omega)), (by first | exact congrArg (Value.int .i64) (by have := HTJ.out; omega) | (have := HTJ.out; omega))⟩
                  case measure => simp only [intOf]; have := HTJ.out; omega
                · have hjn : j = n := by omega
                  rw [hjn]
                  clear hjn hj hlt j
                  have htp : decide (((1 + n : Nat) : Int) < (p : Int)) = false := by have := HP.out; simp; omega
                  rw [← HP.out]
                  go_wp2
                  go_loop [15, 18] (fun m x => ∃ j : Nat, j ≤ mu ∧ m = .int .u64 ((v (n + j) : Nat) : Int) ∧ x = .int .i64 ((p + 1 + j : Nat) : Int)) (fun _ x => p + 1 + mu - (intOf x).toNat)
                  case atStart => exact ⟨0, by omega, rfl, by simp⟩
                  case round =>
                    obtain ⟨j, hj, rfl, rfl⟩ := hrel
                    by_cases hlt : j < mu
                    · have hdj := HT.out.le (n + j) (by omega)
                      obtain ⟨t, ht⟩ : ∃ t, t = p + 1 + j := ⟨_, rfl⟩
                      obtain ⟨y, hy⟩ : ∃ y, y = v (n + j) := ⟨_, rfl⟩
                      obtain ⟨g, hg⟩ : ∃ g, g = d (n + j) := ⟨_, rfl⟩
                      have hx : ∀ w, (Instr.index 9 (.string S) (.int .i64 (t : Int))).run Tryd.prog w = .ok (.int .u8 (((48 + g : Nat)) : Int)) w := fun w => by
                        rw [ht, HP.out, hg]; exact ix S (1 + n + 1 + j) _ (by have := HPS.out; have := HP.out; omega) (HT.out.frac hm j hlt (by have := HPS.out; have := HP.out; omega)) w
                      have hle : y * 10 + g ≤ u := by rw [hy, hg, ← HVS.out (n + j) (by omega)]; exact HVL.out _
                      have hg9 : g ≤ 9 := by omega
                      have HNX : Hid (v (n + (j + 1)) = y * 10 + g) := by show v (n + j + 1) = _; rw [hy, hg]; exact HVS.out (n + j) (by omega)
                      rw [← ht, ← hy]
                      have htp : t < S.size := by have := HPS.out; omega
                      have HTJ : Hid (t = p + 1 + j) := ht
                      clear hdj ht hy hg
                      go_wp2
                      go_round
                      case rel => exact ⟨j + 1, by omega, (by first | exact congrArg (Value.int .u64) (by have := HNX.out; omega) | (have := HNX.out; omega)), (by first | exact congrArg (Value.int .i64) (by have := HTJ.out; omega) | (have := HTJ.out; omega))⟩
                      case measure => simp only [intOf]; have := HTJ.out; omega
                    · have hjn : j = mu := by omega
                      rw [hjn, HVA.out, HPS.out]
                      clear hjn hj hlt j
                      go_wp2
                      go_ret
                      exact ⟨by rw [show ((u : Int) == -(-(u : Int) + 1) + 1) = true by simp; omega]; rfl, HB.out⟩
        · have HPS : Hid (p = S.size) := by show p = S.size; have := HSZ.out; rw [if_neg hm] at this; omega
          have hgS : S.size ≤ p := by have := HPS.out; omega
          have hlfn : decide (p < S.size) = false := by simp; omega
          have hm0 : decide ((0 : Int) < (mu : Int)) = false := by simp; omega
          have hm0n : decide (0 < mu) = false := by simp; omega
          have hlf : decide ((p : Int) < (S.size : Int)) = false := by have := HPS.out; simp; omega
          have hnf : ((p : Int) != (S.size : Int)) = false := by have := HPS.out; simp; omega
          clear hp
          go_wp2
          go_loop [15, 16] (fun m x => ∃ j : Nat, j ≤ n ∧ m = .int .u64 ((v j : Nat) : Int) ∧ x = .int .i64 ((1 + j : Nat) : Int)) (fun _ x => 1 + n - (intOf x).toNat)
          case atStart => exact ⟨0, by omega, by rw [HV0.out]; rfl, by simp⟩
          case round =>
            obtain ⟨j, hj, rfl, rfl⟩ := hrel
            by_cases hlt : j < n
            · obtain ⟨c, hc⟩ : ∃ c, c = 48 + d j := ⟨_, rfl⟩
              have hdj := HT.out.le j (by omega)
              obtain ⟨t, ht⟩ : ∃ t, t = 1 + j := ⟨_, rfl⟩
              obtain ⟨y, hy⟩ : ∃ y, y = v j := ⟨_, rfl⟩
              obtain ⟨g, hg⟩ : ∃ g, g = d j := ⟨_, rfl⟩
              have hx : ∀ w, (Instr.index 9 (.string S) (.int .i64 (t : Int))).run Tryd.prog w = .ok (.int .u8 (((48 + g : Nat)) : Int)) w := fun w => by rw [ht, hg]; exact ix S (1 + j) (48 + d j) (by omega) (HT.out.int j hlt (by omega)) w
              have hle : y * 10 + g ≤ u := by rw [hy, hg, ← HVS.out j (by omega)]; exact HVL.out _
              have hg9 : g ≤ 9 := by omega
              have HNX : Hid (v (j + 1) = y * 10 + g) := by show v (j + 1) = _; rw [hy, hg]; exact HVS.out j (by omega)
              rw [← ht, ← hy]
              have htp : t < p := by have := HP.out; omega
              have HTJ : Hid (t = 1 + j) := ht
              clear hc hdj ht hy hg
              go_wp2
              go_round
              case rel => exact ⟨j + 1, by omega, (by first | exact congrArg (Value.int .u64) (by have := HNX.out; omega) | (have := HNX.out; omega)), (by first | exact congrArg (Value.int .i64) (by have := HTJ.out; omega) | (have := HTJ.out; omega))⟩
              case measure => simp only [intOf]; have := HTJ.out; omega
            · have hjn : j = n := by omega
              rw [hjn]
              clear hjn hj hlt j
              have htp : decide (((1 + n : Nat) : Int) < (p : Int)) = false := by have := HP.out; simp; omega
              rw [← HP.out]
              go_wp2
              go_loop [15, 18] (fun m x => m = .int .u64 (u : Int) ∧ x = .int .i64 (p : Int)) (fun _ _ => 0)
              case atStart => exact ⟨by have h := HVA.out; rw [show mu = 0 by omega, Nat.add_zero] at h; rw [h], rfl⟩
              case round =>
                obtain ⟨rfl, rfl⟩ := hrel
                go_wp2
                go_ret
                exact ⟨by rw [show ((u : Int) == -(-(u : Int) + 1) + 1) = true by simp; omega]; rfl, HB.out⟩

set_option maxHeartbeats 1000000 in
set_option maxRecDepth 100000 in
theorem law3_pos (code : ByteArray) (mu u : Nat) (w : World) (hmu : mu ≤ 65536) (hu : u ≤ 9223372036854775807) (htab : Lib.TabIs Tryd.prog w Tryd.pow10Name .u64 Lib.pow10Tab) :
    Calls Tryd.prog 3 #[.string code, .int .i64 (mu : Int), .int .i64 (u : Int)] w fun e w' => e = .returned (.bool true) ∧ Below w.heap.size w w' := by
  have HTAB : Hid (Lib.TabIs Tryd.prog w Tryd.pow10Name .u64 Lib.pow10Tab) := htab
  clear htab
  go_enter Tryd.func3, Tryd.ntmps3
  go_wp2_with fail
  refine (bytes5 code _ _ w).mono ?_
  rintro e w' ⟨⟨r, rfl, hr⟩, hw⟩
  rw [hw]
  clear hw w'
  cases r with
  | false =>
    go_wp2
    go_ret
    exact ⟨rfl, Below.refl _ _⟩
  | true =>
  have hc := hr rfl
  clear hr
  have d0 : decide ((1048576 : Int) < (code.size : Int)) = false := by simp; omega
  have d0n : decide (1048576 < code.size) = false := by simp; omega
  have d1 : decide ((mu : Int) < 0) = false := by simp
  have d2 : decide ((65536 : Int) < (mu : Int)) = false := by simp; omega
  have d2n : decide (65536 < mu) = false := by simp; omega
  go_wp2_with fail
  refine (fmt_pos code mu u _ (by omega) hu (Lib.tabIs_alloc HTAB.out _)).mono ?_
  rintro e w1 ⟨rfl, hb⟩
  have HB : Hid (Below w.heap.size w w1) := ((Below.refl _ _).alloc (Nat.le_refl _) _).trans (hb.mono (by simp))
  obtain ⟨S, hS⟩ : ∃ S, S = str (textL false mu u) := ⟨_, rfl⟩
  obtain ⟨n, hn⟩ : ∃ n, n = N mu u := ⟨_, rfl⟩
  obtain ⟨d, hd⟩ : ∃ d, d = D mu u := ⟨_, rfl⟩
  obtain ⟨v, hv⟩ : ∃ v, v = V mu u := ⟨_, rfl⟩
  have T : Txt S 0 n mu d := by rw [hS, hn, hd]; exact txt false mu u
  have HV0 : Hid (v 0 = 0) := by show v 0 = 0; rw [hv]; exact V_zero mu u
  have HVA : Hid (v (n + mu) = u) := by show v (n + mu) = u; rw [hv, hn]; exact V_all mu u
  have HVL : Hid (∀ j, v j ≤ u) := by show ∀ j, v j ≤ u; rw [hv]; exact V_le mu u
  have HVS : Hid (∀ j, j < n + mu → v (j + 1) = v j * 10 + d j) := by show ∀ j, j < n + mu → v (j + 1) = v j * 10 + d j; rw [hv, hn, hd]; exact V_succ mu u
  have HT : Hid (Txt S 0 n mu d) := T
  have hn1 : 1 ≤ n := T.n1
  have hnb : n ≤ 20 := by rw [hn]; exact N_le mu u (by omega)
  have hsz : S.size = 0 + n + (if 0 < mu then 1 + mu else 0) := T.size
  have hszb : S.size ≤ 70000 := by rw [hsz]; split <;> omega
  have hszc : 0 + n ≤ S.size := by rw [hsz]; omega
  have HSZ : Hid (S.size = 0 + n + (if 0 < mu then 1 + mu else 0)) := hsz
  have HSS : Hid (S = str (textL false mu u)) := hS
  obtain ⟨c0, hc0⟩ : ∃ c0, c0 = 48 + d 0 := ⟨_, rfl⟩
  have hx0 : ∀ w, (Instr.index 9 (.string S) (.int .i64 (0 : Int))).run Tryd.prog w = .ok (.int .u8 (c0 : Int)) w := fun w => ix S 0 c0 (by omega) (by
    have := T.int 0 (by omega) (by omega)
    simp only [Nat.zero_add] at this
    rw [hc0]; exact this) w
  have hc1 : 48 ≤ c0 := by omega
  have hce : ((c0 : Int) == 45) = false := by simp; omega
  clear hS hn hd hv T hb hsz
  rw [show str (textL false mu u) = S from HSS.out.symm]
  have g0 : decide ((0 : Int) < (S.size : Int)) = true := by simp; omega
  have g0n : decide (0 < S.size) = true := by simp; omega
  go_wp2
  clear hx0 g0 g0n
  go_loop [9] (fun x => ∃ j : Nat, j ≤ n ∧ x = .int .i64 ((0 + j : Nat) : Int)) (fun x => 0 + n - (intOf x).toNat)
  case atStart => exact ⟨0, by omega, by simp⟩
  case round =>
    obtain ⟨j, hj, rfl⟩ := hrel
    by_cases hlt : j < n
    · obtain ⟨c, hc⟩ : ∃ c, c = 48 + d j := ⟨_, rfl⟩
      have hdj := HT.out.le j (by omega)
      have hx : ∀ w, (Instr.index 9 (.string S) (.int .i64 ((0 + j : Nat) : Int))).run Tryd.prog w = .ok (.int .u8 (c : Int)) w := fun w => ix S (0 + j) c (by omega) (by rw [hc]; exact HT.out.int j hlt (by omega)) w
      have hc1 : 48 ≤ c := by omega
      have hc2 : c ≤ 57 := by omega
      obtain ⟨p, hp⟩ : ∃ p, p = 0 + j := ⟨_, rfl⟩
      rw [← hp] at hx ⊢
      have hpj : p < S.size := by omega
      have hpj2 : p < 0 + n := by omega
      have HP : Hid (p = 0 + j) := hp
      clear hc hdj hp
      go_wp2
      go_round
      case rel => exact ⟨j + 1, by omega, (by first | exact congrArg (Value.int .i64) (by have := HP.out; omega) | (have := HP.out; omega))⟩
      case measure => simp only [intOf]; have := HP.out; omega
    · have hjn : j = n := by omega
      rw [hjn]
      clear hjn hj hlt j
      obtain ⟨p, hp⟩ : ∃ p, p = 0 + n := ⟨_, rfl⟩
      rw [← hp]
      have HP : Hid (p = 0 + n) := hp
      have hpk : ((p : Int) == 0) = false := by simp; omega
      obtain ⟨c0, hc0⟩ : ∃ c0, c0 = 48 + d 0 := ⟨_, rfl⟩
      have hx0 : ∀ w, (Instr.index 9 (.string S) (.int .i64 (0 : Int))).run Tryd.prog w = .ok (.int .u8 (c0 : Int)) w := fun w => ix S 0 c0 (by omega) (by rw [hc0]; exact HT.out.int 0 (by omega) (by omega)) w
      have HC0 : Hid (1 < n → c0 ≠ 48) := fun h => by have := HT.out.lead h; omega
      have hpb : p ≤ 70000 := by omega
      clear hc0
      by_cases hn2 : 1 < n
      · have hcc : ((c0 : Int) == 48) = false := by have := HC0.out hn2; simp; omega
        have hpd : decide ((1 : Int) < (p : Int) - 0) = true := by simp; omega
        have hpd1 : decide ((1 : Int) < (p : Int)) = true := by simp; omega
        have hpd2 : decide (1 < p) = true := by simp; omega
        have hpd3 : 1 < p := by omega
        by_cases hm : 0 < mu
        · have hx : ∀ w, (Instr.index 9 (.string S) (.int .i64 (p : Int))).run Tryd.prog w = .ok (.int .u8 ((46 : Nat) : Int)) w := fun w => ix S p 46 (by have := HSZ.out; rw [if_pos hm] at this; omega) (by subst hp; exact HT.out.point hm (by have := HSZ.out; rw [if_pos hm] at this; omega)) w
          have hpj : p < S.size := by have := HSZ.out; rw [if_pos hm] at this; omega
          have HPS : Hid (p + 1 + mu = S.size) := by show p + 1 + mu = S.size; have := HSZ.out; rw [if_pos hm] at this; omega
          have hge : decide ((S.size : Int) ≤ (p : Int)) = false := by simp; omega
          clear hp
          go_wp2
          go_loop [9] (fun x => ∃ j : Nat, j ≤ mu ∧ x = .int .i64 ((p + 1 + j : Nat) : Int)) (fun x => p + 1 + mu - (intOf x).toNat)
          case atStart => exact ⟨0, by omega, by simp⟩
          case round =>
            obtain ⟨j, hj, rfl⟩ := hrel
            by_cases hlt : j < mu
            · obtain ⟨c, hc⟩ : ∃ c, c = 48 + d (n + j) := ⟨_, rfl⟩
              have hdj := HT.out.le (n + j) (by omega)
              obtain ⟨t, ht⟩ : ∃ t, t = p + 1 + j := ⟨_, rfl⟩
              have hx : ∀ w, (Instr.index 9 (.string S) (.int .i64 (t : Int))).run Tryd.prog w = .ok (.int .u8 (c : Int)) w := fun w => by
                rw [ht, HP.out, hc]; exact ix S (0 + n + 1 + j) _ (by have := HPS.out; have := HP.out; omega) (HT.out.frac hm j hlt (by have := HPS.out; have := HP.out; omega)) w
              have hc1 : 48 ≤ c := by omega
              have hc2 : c ≤ 57 := by omega
              rw [← ht]
              have htl : t < S.size := by have := HPS.out; omega
              have HTJ : Hid (t = p + 1 + j) := ht
              clear hc hdj ht
              go_wp2
              go_round
              case rel => exact ⟨j + 1, by omega, (by first | exact congrArg (Value.int .i64) (by have := HTJ.out; omega) | (have := HTJ.out; omega))⟩
              case measure => simp only [intOf]; have := HTJ.out; omega
            · have hjn : j = mu := by omega
              rw [hjn, HPS.out]
              clear hjn hj hlt j
              have hmm : (((S.size : Int) - ((p : Int) + 1)) != (mu : Int)) = false := by have := HPS.out; simp; omega
              go_wp2
              go_loop [15, 16] (fun m x => ∃ j : Nat, j ≤ n ∧ m = .int .u64 ((v j : Nat) : Int) ∧ x = .int .i64 ((0 + j : Nat) : Int)) (fun _ x => 0 + n - (intOf x).toNat)
              case atStart => exact ⟨0, by omega, by rw [HV0.out]; rfl, by simp⟩
              case round =>
                obtain ⟨j, hj, rfl, rfl⟩ := hrel
                by_cases hlt : j < n
                · obtain ⟨c, hc⟩ : ∃ c, c = 48 + d j := ⟨_, rfl⟩
                  have hdj := HT.out.le j (by omega)
                  obtain ⟨t, ht⟩ : ∃ t, t = 0 + j := ⟨_, rfl⟩
                  obtain ⟨y, hy⟩ : ∃ y, y = v j := ⟨_, rfl⟩
                  obtain ⟨g, hg⟩ : ∃ g, g = d j := ⟨_, rfl⟩
                  have hx : ∀ w, (Instr.index 9 (.string S) (.int .i64 (t : Int))).run Tryd.prog w = .ok (.int .u8 (((48 + g : Nat)) : Int)) w := fun w => by rw [ht, hg]; exact ix S (0 + j) (48 + d j) (by omega) (HT.out.int j hlt (by omega)) w
                  have hle : y * 10 + g ≤ u := by rw [hy, hg, ← HVS.out j (by omega)]; exact HVL.out _
                  have hg9 : g ≤ 9 := by omega
                  have HNX : Hid (v (j + 1) = y * 10 + g) := by show v (j + 1) = _; rw [hy, hg]; exact HVS.out j (by omega)
                  rw [← ht, ← hy]
                  have htp : t < p := by have := HP.out; omega
                  have HTJ : Hid (t = 0 + j) := ht
                  clear hc hdj ht hy hg
                  go_wp2
                  go_round
                  case rel => exact ⟨j + 1, by omega, (by first | exact congrArg (Value.int .u64) (by have := HNX.out; omega) | (have := HNX.out; omega)), (by first | exact congrArg (Value.int .i64) (by have := HTJ.out; omega) | (have := HTJ.out; omega))⟩
                  case measure => simp only [intOf]; have := HTJ.out; omega
                · have hjn : j = n := by omega
                  rw [hjn]
                  clear hjn hj hlt j
                  have htp : decide (((0 + n : Nat) : Int) < (p : Int)) = false := by have := HP.out; simp; omega
                  rw [← HP.out]
                  go_wp2
                  go_loop [15, 18] (fun m x => ∃ j : Nat, j ≤ mu ∧ m = .int .u64 ((v (n + j) : Nat) : Int) ∧ x = .int .i64 ((p + 1 + j : Nat) : Int)) (fun _ x => p + 1 + mu - (intOf x).toNat)
                  case atStart => exact ⟨0, by omega, rfl, by simp⟩
                  case round =>
                    obtain ⟨j, hj, rfl, rfl⟩ := hrel
                    by_cases hlt : j < mu
                    · have hdj := HT.out.le (n + j) (by omega)
                      obtain ⟨t, ht⟩ : ∃ t, t = p + 1 + j := ⟨_, rfl⟩
                      obtain ⟨y, hy⟩ : ∃ y, y = v (n + j) := ⟨_, rfl⟩
                      obtain ⟨g, hg⟩ : ∃ g, g = d (n + j) := ⟨_, rfl⟩
                      have hx : ∀ w, (Instr.index 9 (.string S) (.int .i64 (t : Int))).run Tryd.prog w = .ok (.int .u8 (((48 + g : Nat)) : Int)) w := fun w => by
                        rw [ht, HP.out, hg]; exact ix S (0 + n + 1 + j) _ (by have := HPS.out; have := HP.out; omega) (HT.out.frac hm j hlt (by have := HPS.out; have := HP.out; omega)) w
                      have hle : y * 10 + g ≤ u := by rw [hy, hg, ← HVS.out (n + j) (by omega)]; exact HVL.out _
                      have hg9 : g ≤ 9 := by omega
                      have HNX : Hid (v (n + (j + 1)) = y * 10 + g) := by show v (n + j + 1) = _; rw [hy, hg]; exact HVS.out (n + j) (by omega)
                      rw [← ht, ← hy]
                      have htp : t < S.size := by have := HPS.out; omega
                      have HTJ : Hid (t = p + 1 + j) := ht
                      clear hdj ht hy hg
                      go_wp2
                      go_round
                      case rel => exact ⟨j + 1, by omega, (by first | exact congrArg (Value.int .u64) (by have := HNX.out; omega) | (have := HNX.out; omega)), (by first | exact congrArg (Value.int .i64) (by have := HTJ.out; omega) | (have := HTJ.out; omega))⟩
                      case measure => simp only [intOf]; have := HTJ.out; omega
                    · have hjn : j = mu := by omega
                      rw [hjn, HVA.out, HPS.out]
                      clear hjn hj hlt j
                      go_wp2
                      go_ret
                      exact ⟨by simp, HB.out⟩
        · have HPS : Hid (p = S.size) := by show p = S.size; have := HSZ.out; rw [if_neg hm] at this; omega
          have hgS : S.size ≤ p := by have := HPS.out; omega
          have hlfn : decide (p < S.size) = false := by simp; omega
          have hm0 : decide ((0 : Int) < (mu : Int)) = false := by simp; omega
          have hm0n : decide (0 < mu) = false := by simp; omega
          have hlf : decide ((p : Int) < (S.size : Int)) = false := by have := HPS.out; simp; omega
          have hnf : ((p : Int) != (S.size : Int)) = false := by have := HPS.out; simp; omega
          clear hp
          go_wp2
          go_loop [15, 16] (fun m x => ∃ j : Nat, j ≤ n ∧ m = .int .u64 ((v j : Nat) : Int) ∧ x = .int .i64 ((0 + j : Nat) : Int)) (fun _ x => 0 + n - (intOf x).toNat)
          case atStart => exact ⟨0, by omega, by rw [HV0.out]; rfl, by simp⟩
          case round =>
            obtain ⟨j, hj, rfl, rfl⟩ := hrel
            by_cases hlt : j < n
            · obtain ⟨c, hc⟩ : ∃ c, c = 48 + d j := ⟨_, rfl⟩
              have hdj := HT.out.le j (by omega)
              obtain ⟨t, ht⟩ : ∃ t, t = 0 + j := ⟨_, rfl⟩
              obtain ⟨y, hy⟩ : ∃ y, y = v j := ⟨_, rfl⟩
              obtain ⟨g, hg⟩ : ∃ g, g = d j := ⟨_, rfl⟩
              have hx : ∀ w, (Instr.index 9 (.string S) (.int .i64 (t : Int))).run Tryd.prog w = .ok (.int .u8 (((48 + g : Nat)) : Int)) w := fun w => by rw [ht, hg]; exact ix S (0 + j) (48 + d j) (by omega) (HT.out.int j hlt (by omega)) w
              have hle : y * 10 + g ≤ u := by rw [hy, hg, ← HVS.out j (by omega)]; exact HVL.out _
              have hg9 : g ≤ 9 := by omega
              have HNX : Hid (v (j + 1) = y * 10 + g) := by show v (j + 1) = _; rw [hy, hg]; exact HVS.out j (by omega)
              rw [← ht, ← hy]
              have htp : t < p := by have := HP.out; omega
              have HTJ : Hid (t = 0 + j) := ht
              clear hc hdj ht hy hg
              go_wp2
              go_round
              case rel => exact ⟨j + 1, by omega, (by first | exact congrArg (Value.int .u64) (by have := HNX.out; omega) | (have := HNX.out; omega)), (by first | exact congrArg (Value.int .i64) (by have := HTJ.out; omega) | (have := HTJ.out; omega))⟩
              case measure => simp only [intOf]; have := HTJ.out; omega
            · have hjn : j = n := by omega
              rw [hjn]
              clear hjn hj hlt j
              have htp : decide (((0 + n : Nat) : Int) < (p : Int)) = false := by have := HP.out; simp; omega
              rw [← HP.out]
              go_wp2
              go_loop [15, 18] (fun m x => m = .int .u64 (u : Int) ∧ x = .int .i64 (p : Int)) (fun _ _ => 0)
              case atStart => exact ⟨by have h := HVA.out; rw [show mu = 0 by omega, Nat.add_zero] at h; rw [h], rfl⟩
              case round =>
                obtain ⟨rfl, rfl⟩ := hrel
                go_wp2
                go_ret
                exact ⟨by simp, HB.out⟩
      · have hpd : decide ((1 : Int) < (p : Int) - 0) = false := by simp; omega
        have hpd1 : decide ((1 : Int) < (p : Int)) = false := by simp; omega
        have hpd2 : decide (1 < p) = false := by simp; omega
        have hpd3 : p ≤ 1 := by omega
        by_cases hm : 0 < mu
        · have hx : ∀ w, (Instr.index 9 (.string S) (.int .i64 (p : Int))).run Tryd.prog w = .ok (.int .u8 ((46 : Nat) : Int)) w := fun w => ix S p 46 (by have := HSZ.out; rw [if_pos hm] at this; omega) (by subst hp; exact HT.out.point hm (by have := HSZ.out; rw [if_pos hm] at this; omega)) w
          have hpj : p < S.size := by have := HSZ.out; rw [if_pos hm] at this; omega
          have HPS : Hid (p + 1 + mu = S.size) := by show p + 1 + mu = S.size; have := HSZ.out; rw [if_pos hm] at this; omega
          have hge : decide ((S.size : Int) ≤ (p : Int)) = false := by simp; omega
          clear hp
          go_wp2
          go_loop [9] (fun x => ∃ j : Nat, j ≤ mu ∧ x = .int .i64 ((p + 1 + j : Nat) : Int)) (fun x => p + 1 + mu - (intOf x).toNat)
          case atStart => exact ⟨0, by omega, by simp⟩
          case round =>
            obtain ⟨j, hj, rfl⟩ := hrel
            by_cases hlt : j < mu
            · obtain ⟨c, hc⟩ : ∃ c, c = 48 + d (n + j) := ⟨_, rfl⟩
              have hdj := HT.out.le (n + j) (by omega)
              obtain ⟨t, ht⟩ : ∃ t, t = p + 1 + j := ⟨_, rfl⟩
              have hx : ∀ w, (Instr.index 9 (.string S) (.int .i64 (t : Int))).run Tryd.prog w = .ok (.int .u8 (c : Int)) w := fun w => by
                rw [ht, HP.out, hc]; exact ix S (0 + n + 1 + j) _ (by have := HPS.out; have := HP.out; omega) (HT.out.frac hm j hlt (by have := HPS.out; have := HP.out; omega)) w
              have hc1 : 48 ≤ c := by omega
              have hc2 : c ≤ 57 := by omega
              rw [← ht]
              have htl : t < S.size := by have := HPS.out; omega
              have HTJ : Hid (t = p + 1 + j) := ht
              clear hc hdj ht
              go_wp2
              go_round
              case rel => exact ⟨j + 1, by omega, (by first | exact congrArg (Value.int .i64) (by have := HTJ.out; omega) | (have := HTJ.out; omega))⟩
              case measure => simp only [intOf]; have := HTJ.out; omega
            · have hjn : j = mu := by omega
              rw [hjn, HPS.out]
              clear hjn hj hlt j
              have hmm : (((S.size : Int) - ((p : Int) + 1)) != (mu : Int)) = false := by have := HPS.out; simp; omega
              go_wp2
              go_loop [15, 16] (fun m x => ∃ j : Nat, j ≤ n ∧ m = .int .u64 ((v j : Nat) : Int) ∧ x = .int .i64 ((0 + j : Nat) : Int)) (fun _ x => 0 + n - (intOf x).toNat)
              case atStart => exact ⟨0, by omega, by rw [HV0.out]; rfl, by simp⟩
              case round =>
                obtain ⟨j, hj, rfl, rfl⟩ := hrel
                by_cases hlt : j < n
                · obtain ⟨c, hc⟩ : ∃ c, c = 48 + d j := ⟨_, rfl⟩
                  have hdj := HT.out.le j (by omega)
                  obtain ⟨t, ht⟩ : ∃ t, t = 0 + j := ⟨_, rfl⟩
                  obtain ⟨y, hy⟩ : ∃ y, y = v j := ⟨_, rfl⟩
                  obtain ⟨g, hg⟩ : ∃ g, g = d j := ⟨_, rfl⟩
                  have hx : ∀ w, (Instr.index 9 (.string S) (.int .i64 (t : Int))).run Tryd.prog w = .ok (.int .u8 (((48 + g : Nat)) : Int)) w := fun w => by rw [ht, hg]; exact ix S (0 + j) (48 + d j) (by omega) (HT.out.int j hlt (by omega)) w
                  have hle : y * 10 + g ≤ u := by rw [hy, hg, ← HVS.out j (by omega)]; exact HVL.out _
                  have hg9 : g ≤ 9 := by omega
                  have HNX : Hid (v (j + 1) = y * 10 + g) := by show v (j + 1) = _; rw [hy, hg]; exact HVS.out j (by omega)
                  rw [← ht, ← hy]
                  have htp : t < p := by have := HP.out; omega
                  have HTJ : Hid (t = 0 + j) := ht
                  clear hc hdj ht hy hg
                  go_wp2
                  go_round
                  case rel => exact ⟨j + 1, by omega, (by first | exact congrArg (Value.int .u64) (by have := HNX.out; omega) | (have := HNX.out; omega)), (by first | exact congrArg (Value.int .i64) (by have := HTJ.out; omega) | (have := HTJ.out; omega))⟩
                  case measure => simp only [intOf]; have := HTJ.out; omega
                · have hjn : j = n := by omega
                  rw [hjn]
                  clear hjn hj hlt j
                  have htp : decide (((0 + n : Nat) : Int) < (p : Int)) = false := by have := HP.out; simp; omega
                  rw [← HP.out]
                  go_wp2
                  go_loop [15, 18] (fun m x => ∃ j : Nat, j ≤ mu ∧ m = .int .u64 ((v (n + j) : Nat) : Int) ∧ x = .int .i64 ((p + 1 + j : Nat) : Int)) (fun _ x => p + 1 + mu - (intOf x).toNat)
                  case atStart => exact ⟨0, by omega, rfl, by simp⟩
                  case round =>
                    obtain ⟨j, hj, rfl, rfl⟩ := hrel
                    by_cases hlt : j < mu
                    · have hdj := HT.out.le (n + j) (by omega)
                      obtain ⟨t, ht⟩ : ∃ t, t = p + 1 + j := ⟨_, rfl⟩
                      obtain ⟨y, hy⟩ : ∃ y, y = v (n + j) := ⟨_, rfl⟩
                      obtain ⟨g, hg⟩ : ∃ g, g = d (n + j) := ⟨_, rfl⟩
                      have hx : ∀ w, (Instr.index 9 (.string S) (.int .i64 (t : Int))).run Tryd.prog w = .ok (.int .u8 (((48 + g : Nat)) : Int)) w := fun w => by
                        rw [ht, HP.out, hg]; exact ix S (0 + n + 1 + j) _ (by have := HPS.out; have := HP.out; omega) (HT.out.frac hm j hlt (by have := HPS.out; have := HP.out; omega)) w
                      have hle : y * 10 + g ≤ u := by rw [hy, hg, ← HVS.out (n + j) (by omega)]; exact HVL.out _
                      have hg9 : g ≤ 9 := by omega
                      have HNX : Hid (v (n + (j + 1)) = y * 10 + g) := by show v (n + j + 1) = _; rw [hy, hg]; exact HVS.out (n + j) (by omega)
                      rw [← ht, ← hy]
                      have htp : t < S.size := by have := HPS.out; omega
                      have HTJ : Hid (t = p + 1 + j) := ht
                      clear hdj ht hy hg
                      go_wp2
                      go_round
                      case rel => exact ⟨j + 1, by omega, (by first | exact congrArg (Value.int .u64) (by have := HNX.out; omega) | (have := HNX.out; omega)), (by first | exact congrArg (Value.int .i64) (by have := HTJ.out; omega) | (have := HTJ.out; omega))⟩
                      case measure => simp only [intOf]; have := HTJ.out; omega
                    · have hjn : j = mu := by omega
                      rw [hjn, HVA.out, HPS.out]
                      clear hjn hj hlt j
                      go_wp2
                      go_ret
                      exact ⟨by simp, HB.out⟩
        · have HPS : Hid (p = S.size) := by show p = S.size; have := HSZ.out; rw [if_neg hm] at this; omega
          have hgS : S.size ≤ p := by have := HPS.out; omega
          have hlfn : decide (p < S.size) = false := by simp; omega
          have hm0 : decide ((0 : Int) < (mu : Int)) = false := by simp; omega
          have hm0n : decide (0 < mu) = false := by simp; omega
          have hlf : decide ((p : Int) < (S.size : Int)) = false := by have := HPS.out; simp; omega
          have hnf : ((p : Int) != (S.size : Int)) = false := by have := HPS.out; simp; omega
          clear hp
          go_wp2
          go_loop [15, 16] (fun m x => ∃ j : Nat, j ≤ n ∧ m = .int .u64 ((v j : Nat) : Int) ∧ x = .int .i64 ((0 + j : Nat) : Int)) (fun _ x => 0 + n - (intOf x).toNat)
          case atStart => exact ⟨0, by omega, by rw [HV0.out]; rfl, by simp⟩
          case round =>
            obtain ⟨j, hj, rfl, rfl⟩ := hrel
            by_cases hlt : j < n
            · obtain ⟨c, hc⟩ : ∃ c, c = 48 + d j := ⟨_, rfl⟩
              have hdj := HT.out.le j (by omega)
              obtain ⟨t, ht⟩ : ∃ t, t = 0 + j := ⟨_, rfl⟩
              obtain ⟨y, hy⟩ : ∃ y, y = v j := ⟨_, rfl⟩
              obtain ⟨g, hg⟩ : ∃ g, g = d j := ⟨_, rfl⟩
              have hx : ∀ w, (Instr.index 9 (.string S) (.int .i64 (t : Int))).run Tryd.prog w = .ok (.int .u8 (((48 + g : Nat)) : Int)) w := fun w => by rw [ht, hg]; exact ix S (0 + j) (48 + d j) (by omega) (HT.out.int j hlt (by omega)) w
              have hle : y * 10 + g ≤ u := by rw [hy, hg, ← HVS.out j (by omega)]; exact HVL.out _
              have hg9 : g ≤ 9 := by omega
              have HNX : Hid (v (j + 1) = y * 10 + g) := by show v (j + 1) = _; rw [hy, hg]; exact HVS.out j (by omega)
              rw [← ht, ← hy]
              have htp : t < p := by have := HP.out; omega
              have HTJ : Hid (t = 0 + j) := ht
              clear hc hdj ht hy hg
              go_wp2
              go_round
              case rel => exact ⟨j + 1, by omega, (by first | exact congrArg (Value.int .u64) (by have := HNX.out; omega) | (have := HNX.out; omega)), (by first | exact congrArg (Value.int .i64) (by have := HTJ.out; omega) | (have := HTJ.out; omega))⟩
              case measure => simp only [intOf]; have := HTJ.out; omega
            · have hjn : j = n := by omega
              rw [hjn]
              clear hjn hj hlt j
              have htp : decide (((0 + n : Nat) : Int) < (p : Int)) = false := by have := HP.out; simp; omega
              rw [← HP.out]
              go_wp2
              go_loop [15, 18] (fun m x => m = .int .u64 (u : Int) ∧ x = .int .i64 (p : Int)) (fun _ _ => 0)
              case atStart => exact ⟨by have h := HVA.out; rw [show mu = 0 by omega, Nat.add_zero] at h; rw [h], rfl⟩
              case round =>
                obtain ⟨rfl, rfl⟩ := hrel
                go_wp2
                go_ret
                exact ⟨by simp, HB.out⟩
end Go.Proofs.Qxb6628869aDoor
